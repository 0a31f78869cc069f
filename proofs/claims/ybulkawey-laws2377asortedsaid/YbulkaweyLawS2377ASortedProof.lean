import Derived.Test.YbulkaweyRows
import Derived.WalkKit
import Derived.ProofKit
import Derived.OpenShut
import Derived.ShutString
import Derived.ChangeOld
import Derived.Below
import Derived.Carry
import Derived.SizedLaws
import Derived.Deep.Slices
import Derived.Deep.Strs
import Derived.Lib.SmallJoins
import Derived.Test.YbulkaweyALaw
namespace Go.Proofs.Ybulkawey.lawS2377ASorted
open Go.ChangeShapes Go.WideShapes Go.ChangeAt Go.RowKit
open Go.Deep (open_slice choose_lt)
set_option linter.unusedVariables false

theorem own : ownKnob Yba.prog.godebug = none := by kernel_rfl
theorem laidOut : laidOutB Yba.prog = true := by kernel_rfl
theorem cells25 : Yba.prog.cellsOf 25 = 3 := by kernel_rfl
theorem cells9 : Yba.prog.cellsOf 9 = 1 := by kernel_rfl
theorem cells3 : Yba.prog.cellsOf 3 = 1 := by kernel_rfl

/-- One drawn item, opened: its three cells. -/
theorem open_item {H : Type} {enc : TypeId × Value → H} {w : World} {base : Nat} {spare : Nat → Bool} {held : Bool} {fuel : Nat} {cs : List Value} {x : DataW H × List MemPlace}
    (h : DataW.trod enc Yba.prog w base spare held fuel 25 cs = some x) :
    ∃ a : App, cs = c3 a ∧ (-9223372036854775808 ≤ a.call ∧ a.call ≤ 9223372036854775807 ∧ -9223372036854775808 ≤ a.ret ∧ a.ret ≤ 9223372036854775807) ∧ a.val.size ∈ x.1.weights Yba.prog 25 := by
  obtain ⟨y0, y1, y2, n, hx, hlen, h0, h1, h2⟩ := Go.Deep.trod_struct3 Yba.underlying25 h
  rw [cells25] at hlen
  obtain ⟨c0, c1, c2, rfl⟩ : ∃ c0 c1 c2, cs = [c0, c1, c2] := by
    match cs, hlen with
    | [c0, c1, c2], _ => exact ⟨c0, c1, c2, rfl⟩
  simp only [cells9, cells3] at h0 h1 h2
  obtain ⟨i, e0, _, w0⟩ := DataW.trod_int Yba.underlying3 h0
  obtain ⟨t, e1, _, w1⟩ := DataW.trod_int Yba.underlying3 h1
  obtain ⟨s, e2, x2, _⟩ := DataW.trod_string Yba.underlying9 h2
  simp at e0 e1 e2
  subst e0 e1 e2
  have r0 := bounds_i64 w0
  have r1 := bounds_i64 w1
  refine ⟨⟨i, t, s⟩, rfl, ⟨r0.1, r0.2, r1.1, r1.2⟩, ?_⟩
  rw [hx, x2]
  simp [DataW.weights, DataW.weightsEach, Yba.underlying25]

theorem weightsAll_mem {H : Type} {P : Program} {e : TypeId} : ∀ {l : List (DataW H)} {d : DataW H}, d ∈ l → ∀ n ∈ d.weights P e, n ∈ DataW.weightsAll P e l
  | d0 :: l, d, h, n, hn => by
    simp only [DataW.weightsAll, List.mem_append]
    rcases List.mem_cons.1 h with rfl | h
    · exact Or.inl hn
    · exact Or.inr (weightsAll_mem h n hn)

/-- A slice of drawn items, opened. -/
theorem open_items {H : Type} {enc : TypeId × Value → H} {W : World} {spare : Nat → Bool} {held : Bool} {fuel : Nat} {a0 : Option Addr} {len cap : Nat} {x : DataW H × List MemPlace}
    (h : DataW.trod enc Yba.prog W 0 spare held fuel 22 [.slice a0 len cap] = some x) (hw : ∀ n ∈ x.1.weights Yba.prog 22, n ≤ reachBytes) :
    len ≤ maxLen ∧ ∃ f : Nat → App, Items a0 len f W ∧ ∀ i, i < len → (f i).fits := by
  rcases open_slice Yba.underlying22 h with ⟨hcs, _⟩ | ⟨a, len', cap', m, n, D, Pl, hcs, _, hl, hm, hmm, hxx, hx⟩
  · simp at hcs
    obtain ⟨rfl, rfl, rfl⟩ := hcs
    exact ⟨Nat.zero_le _, fun _ => App.zero, fun h => by omega, fun i h => by omega⟩
  simp at hcs
  obtain ⟨rfl, rfl, rfl⟩ := hcs
  have hlm : len ≤ m := by rw [hmm]; split <;> omega
  have each : ∀ i, i < len → ∃ q : App, W.cells? 0 (a.add (i * 3)) 3 = some (c3 q) ∧ q.fits := fun i hi => by
    obtain ⟨cs', h1, h2⟩ := hx i (by omega)
    rw [cells25] at h1
    obtain ⟨q, rfl, ⟨r1, r2, r3, r4⟩, r5⟩ := open_item h2
    refine ⟨q, h1, r1, r2, r3, r4, ?_⟩
    have hin : q.val.size ∈ x.1.weights Yba.prog 22 := by
      rw [hxx]
      simp only [DataW.weights, Yba.underlying22]
      refine List.mem_cons_of_mem _ (List.mem_append_left _ (weightsAll_mem (d := D i) ?_ _ r5))
      exact List.mem_map.2 ⟨i, List.mem_range.2 hi, rfl⟩
    have := hw _ hin
    have h47 : reachBytes ≤ 140737488355328 := by decide
    omega
  have hinh : Inhabited App := ⟨App.zero⟩
  obtain ⟨f, hf⟩ := choose_lt each
  refine ⟨by omega, f, fun hpos => ?_, fun i hi => (hf i hi).2⟩
  obtain ⟨b, off, spot⟩ := a
  have hc : ∀ i, i < len → ∀ j, j < 3 → W.cell? (((⟨b, off, spot⟩ : Addr).add (i * 3)).add j) = (c3 (f i))[j]? := fun i hi j hj =>
    (World.cells?_some (hf i hi).1).2.2 j hj
  have hspot : spot = none := by
    have h0 := hc 0 hpos 0 (by omega)
    have e : ((⟨b, off, spot⟩ : Addr).add (0 * 3)).add 0 = ⟨b, off, spot⟩ := rfl
    rw [e] at h0
    exact World.cell?_spot (a := ⟨b, off, spot⟩) h0
  subst hspot
  have hadd : ∀ i j, ((⟨b, off, none⟩ : Addr).add (i * 3)).add j = ⟨b, off + i * 3 + j, none⟩ := fun i j => by
    rw [Addr.add_lit, Addr.add_lit]
  refine ⟨b, off, rfl, ?_, fun i hi => ⟨?_, ?_, ?_⟩⟩
  · have := hc 0 hpos 0 (by omega)
    rw [hadd] at this
    exact World.block_lt_of_cell? W _ this
  · have := hc i hi 0 (by omega); rw [hadd] at this; simpa [c3] using this
  · have := hc i hi 1 (by omega); rw [hadd] at this; simpa [c3] using this
  · have := hc i hi 2 (by omega); rw [hadd] at this; simpa [c3] using this

/-- The frame. -/
theorem frame {W w' : World} (h : Kp W w') (may : MemPlace → Prop) : W.keptBut w' may := by
  refine ⟨h.os, h.output, fun i hi => ?_⟩
  rw [h.block i hi]
  split <;> simp_all
theorem same {W w' : World} (h : Kp W w') {p : MemPlace} (hp : p.block < W.heap.size) : W.sameAt w' p := by
  cases p with
  | cell b o => exact World.cell?_of_block (w := W) (h.block b hp)
  | map b => exact h.block b hp

/-! ### The row's step -/
set_option maxRecDepth 100000 in
theorem lifted (os : Os) (started : os.Started) (H : Type) (enc : TypeId × Value → H) :
    ReturnsInHanded {} Yba.checked os 3 .any (Rows.lawS2377ASortedSpec.pre6 enc Yba.prog Yba.f3 Rows.lawS2377ASortedRow.domain false) (Rows.lawS2377ASortedSpec.post enc Yba.prog Yba.f3 false true false false) := by
  refine returnsInHanded_of_change_sized (C := Yba.checked) own started (by kernel_rfl) Yba.func3
    (ChangeSpec.witness6 (enc := enc) (C := Yba.checked) false ⟨#[], #[.slice none 0 0], []⟩ 8 (by kernel_rfl) (by kernel_rfl) (by kernel_rfl) (by kernel_rfl)) ?_
  intro W base args ds gs before hval0 hW hcnd hsized _
  have hval : ∀ (j : Nat) t v, Yba.f3.params[j]? = some t → args[j]? = some v → Value.okWide Yba.prog W .any base t v := hval0
  have hW' := hW
  obtain ⟨p, q, hA0, hV, rfl, hfz, hnd⟩ := hW
  have hA : DataW.TrodAll enc Yba.prog W 0 (fun _ => true) true Yba.f3.params.toList args.toList ds p := hA0
  rw [Yba.params3] at hA hval
  obtain ⟨v0, vs0, d0, ds0, p0, q0, hargs, rfl, rfl, h0, r0⟩ := trodAll_cons hA
  obtain ⟨rfl, rfl, rfl⟩ := trodAll_nil r0
  obtain rfl : args = #[v0] := by cases args; simp_all
  obtain ⟨rfl, rfl⟩ := trodVars_none hV
  obtain ⟨a0, len0, cap0, rfl⟩ := okWide_slice Yba.underlying22 (hval 0 22 v0 rfl rfl)
  have k0 := h0
  have lt0 : ∀ x ∈ p0, x.block < W.heap.size := by obtain ⟨m, hm⟩ := k0; exact DataW.trod_lt m _ _ _ hm
  have hw0 : ∀ n ∈ d0.weights Yba.prog 22, n ≤ reachBytes := fun n hn => by
    have := List.all_eq_true.1 hsized _ (DataW.weights_mem_each (j := 0) (t := 22) (d := d0) (by rw [Yba.params3]; rfl) rfl n hn)
    simpa using this
  have walk : Calls Yba.prog 3 #[.slice a0 len0 cap0] W fun e w' => e = .returned (.bool true) ∧ Kp W w' := by
    obtain ⟨fuel, hf⟩ := h0
    obtain ⟨hm, f, hi, hff⟩ := open_items (x := (d0, p0)) (by simpa [Value.cells] using hf) hw0
    by_cases hn : len0 ≤ 256
    · exact law_body a0 len0 cap0 f W hn hi hff
    · exact law_long a0 len0 cap0 W (by omega) hm
  clear hA0 hval0
  refine walk.mono fun e W' ⟨he, bel⟩ => ?_
  subst he
  exact ⟨_, rfl, _, _, _, [], _, [], hW', trodAll_mk1 (shut_bool Yba.underlying4 _), (trodAll_cons_mk (WideElems.Trod_stays laidOut (by kernel_rfl) (of_decide_eq_true (by kernel_rfl)) k0 (fun x hx => same bel (lt0 x hx)) (fun x hx => by simpa using lt0 x hx)) trodAll_mk0), rfl, frame bel _, fun h => by cases h⟩

theorem over : Rows.lawS2377ASortedRow.holds Yba.pinned (OpenSpec.ofChange Rows.lawS2377ASortedSpec) :=
  OpenClaim.holds_of_wide 3 Yba.f3 rfl rfl rfl rfl rfl rfl rfl ⟨rfl, rfl, rfl, rfl, rfl⟩ rfl rfl rfl rfl rfl (by kernel_rfl) Yba.func3 (by kernel_rfl)
    (of_decide_eq_true (by kernel_rfl)) (by unfold Func.isWrapper; first | (rw [if_pos (by decide +kernel)]; kernel_rfl) | (rw [if_neg (by decide +kernel)]; exact ⟨rfl, rfl⟩))
    (fun os started H enc _ => lifted os started H enc)

/-- The statement. -/
theorem proved : Rows.LawS2377ASortedSaid := over
end Go.Proofs.Ybulkawey.lawS2377ASorted
