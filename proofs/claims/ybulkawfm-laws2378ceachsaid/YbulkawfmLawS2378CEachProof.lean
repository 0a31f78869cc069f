import Derived.Test.YbulkawfmRows
import Derived.WalkKit
import Derived.ProofKit
import Derived.OpenShut
import Derived.ShutString
import Derived.ChangeOld
import Derived.Below
import Derived.Deep.Slices
import Derived.Lib.SmallJoins
import Derived.Test.YbulkawfmLawWalk
namespace Go.Proofs.Ybulkawfm.lawS2378CEach
open Go.ChangeShapes Go.WideShapes Go.ChangeAt Go.RowKit
open Go.Deep (open_slice choose_lt)
set_option linter.unusedVariables false

theorem own : ownKnob Yba.prog.godebug = none := by kernel_rfl
theorem laidOut : laidOutB Yba.prog = true := by kernel_rfl
theorem cells33 : Yba.prog.cellsOf 33 = 4 := by kernel_rfl
theorem cells9 : Yba.prog.cellsOf 9 = 1 := by kernel_rfl
theorem cells4 : Yba.prog.cellsOf 4 = 1 := by kernel_rfl
theorem cells2 : Yba.prog.cellsOf 2 = 1 := by kernel_rfl

/-- One drawn row, opened: its four cells. -/
theorem open_row {H : Type} {enc : TypeId × Value → H} {w : World} {base : Nat} {spare : Nat → Bool} {held : Bool} {fuel : Nat} {cs : List Value} {x : DataW H × List MemPlace}
    (h : DataW.trod enc Yba.prog w base spare held fuel 33 cs = some x) :
    ∃ (i t : ByteArray) (l : Bool) (s : Int), cs = [.string i, .string t, .bool l, .int .i64 s] := by
  obtain ⟨y0, y1, y2, y3, n, _, hlen, h0, h1, h2, h3⟩ := Joins.trod_struct4 Yba.underlying33 h
  rw [cells33] at hlen
  obtain ⟨c0, c1, c2, c3, rfl⟩ : ∃ c0 c1 c2 c3, cs = [c0, c1, c2, c3] := by
    match cs, hlen with
    | [c0, c1, c2, c3], _ => exact ⟨c0, c1, c2, c3, rfl⟩
  simp only [cells9, cells4, cells2] at h0 h1 h2 h3
  obtain ⟨i, e0, _⟩ := DataW.trod_string Yba.underlying9 h0
  obtain ⟨t, e1, _⟩ := DataW.trod_string Yba.underlying9 h1
  obtain ⟨l, e2, _⟩ := DataW.trod_bool Yba.underlying4 h2
  obtain ⟨s, e3, _⟩ := DataW.trod_int Yba.underlying2 h3
  simp at e0 e1 e2 e3
  subst e0 e1 e2 e3
  exact ⟨i, t, l, s, rfl⟩

/-- A slice of drawn rows, opened. -/
theorem open_rows {H : Type} {enc : TypeId × Value → H} {W : World} {spare : Nat → Bool} {held : Bool} {fuel : Nat} {a0 : Option Addr} {len cap : Nat} {x : DataW H × List MemPlace}
    (h : DataW.trod enc Yba.prog W 0 spare held fuel 22 [.slice a0 len cap] = some x) :
    (a0 = none ∧ len = 0 ∧ cap = 0) ∨ ∃ (a : Addr) (c : Cols), a0 = some a ∧ len ≤ maxLen ∧ RowsAt c len a W := by
  rcases open_slice Yba.underlying22 h with ⟨hcs, _⟩ | ⟨a, len', cap', m, n, D, Pl, hcs, _, hl, hm, hmm, _, hx⟩
  · simp at hcs; exact .inl hcs
  right
  simp at hcs
  obtain ⟨rfl, rfl, rfl⟩ := hcs
  have hlm : len ≤ m := by rw [hmm]; split <;> omega
  have each : ∀ i, i < len → ∃ q : (ByteArray × ByteArray) × (Bool × Int), W.cells? 0 (a.add (i * 4)) 4 = some [.string q.1.1, .string q.1.2, .bool q.2.1, .int .i64 q.2.2] := fun i hi => by
    obtain ⟨cs', h1, h2⟩ := hx i (by omega)
    rw [cells33] at h1
    obtain ⟨i', t, l, s, rfl⟩ := open_row h2
    exact ⟨((i', t), (l, s)), h1⟩
  obtain ⟨f, hf⟩ := choose_lt each
  refine ⟨a, ⟨fun i => (f i).1.1, fun i => (f i).1.2, fun i => (f i).2.1, fun i => (f i).2.2⟩, rfl, by omega, fun hpos => ?_⟩
  obtain ⟨b, off, spot⟩ := a
  have hc : ∀ i, i < len → ∀ j, j < 4 → W.cell? (((⟨b, off, spot⟩ : Addr).add (i * 4)).add j) = ([.string (f i).1.1, .string (f i).1.2, .bool (f i).2.1, .int .i64 (f i).2.2] : List Value)[j]? := fun i hi j hj =>
    (World.cells?_some (hf i hi)).2.2 j hj
  have hspot : spot = none := by
    have h0 := hc 0 hpos 0 (by omega)
    have e : ((⟨b, off, spot⟩ : Addr).add (0 * 4)).add 0 = ⟨b, off, spot⟩ := rfl
    rw [e] at h0
    exact World.cell?_spot (a := ⟨b, off, spot⟩) h0
  subst hspot
  have hadd : ∀ i j, ((⟨b, off, none⟩ : Addr).add (i * 4)).add j = ⟨b, off + i * 4 + j, none⟩ := fun i j => by
    rw [Addr.add_lit, Addr.add_lit]
  refine ⟨b, off, rfl, ?_, fun i hi => ⟨?_, ?_, ?_, ?_⟩⟩
  · have := hc 0 hpos 0 (by omega)
    rw [hadd] at this
    exact World.block_lt_of_cell? W _ this
  · have := hc i hi 0 (by omega); rw [hadd] at this; simpa using this
  · have := hc i hi 1 (by omega); rw [hadd] at this; simpa using this
  · have := hc i hi 2 (by omega); rw [hadd] at this; simpa using this
  · have := hc i hi 3 (by omega); rw [hadd] at this; simpa using this

/-! ### The row's step -/
set_option maxRecDepth 100000 in
theorem lifted (os : Os) (started : os.Started) (H : Type) (enc : TypeId × Value → H) :
    ReturnsInHanded {} Yba.checked os 3 .any (Rows.lawS2378CEachSpec.pre6 enc Yba.prog Yba.f3 Rows.lawS2378CEachRow.domain false) (Rows.lawS2378CEachSpec.post enc Yba.prog Yba.f3 false true false false) := by
  refine returnsInHanded_of_change (C := Yba.checked) own started (by kernel_rfl) Yba.func3
    (ChangeSpec.witness6 (enc := enc) (C := Yba.checked) false ⟨#[], #[.slice none 0 0], []⟩ 8 (by kernel_rfl) (by kernel_rfl) (by kernel_rfl) (by kernel_rfl)) ?_
  intro W base args ds gs before hval0 hW hcnd _
  have hval : ∀ (j : Nat) t v, Yba.f3.params[j]? = some t → args[j]? = some v → Value.okWide Yba.prog W .any base t v := hval0
  have hW' := hW
  obtain ⟨p, q, hA0, hV, rfl, hfz, hnd⟩ := hW
  have hA : DataW.TrodAll enc Yba.prog W 0 (fun _ => true) true Yba.f3.params.toList args.toList ds p := hA0
  rw [Yba.params3] at hA hval
  obtain ⟨v0, vs0, d0, ds0, p0, q0, hargs, rfl, rfl, h0, r0⟩ := trodAll_cons hA
  obtain ⟨rfl, rfl, rfl⟩ := trodAll_nil r0
  obtain rfl : args = #[v0] := by cases args; simp_all
  obtain ⟨rfl, rfl⟩ := trodVars_none hV
  obtain ⟨a0, len0, cap0, rfl⟩ := okWide_slice Yba.underlying22 (hval 0 22 v0 rfl rfl)
  have k0 := h0
  have lt0 : ∀ x ∈ p0, x.block < W.heap.size := by obtain ⟨m, hm⟩ := k0; exact DataW.trod_lt m _ _ _ hm
  have walk : Calls Yba.prog 3 #[.slice a0 len0 cap0] W fun e w' => e = .returned (.bool true) ∧ Below W.heap.size W w' := by
    obtain ⟨fuel, hf⟩ := h0
    rcases open_rows (by simpa [Value.cells] using hf) with ⟨rfl, rfl, rfl⟩ | ⟨a, c, rfl, hm, hr⟩
    · exact law_body none 0 0 ⟨fun _ => ByteArray.empty, fun _ => ByteArray.empty, fun _ => false, fun _ => 0⟩ W (by omega) (fun _ h => by cases h) (fun _ => rfl) (build_nil _ W)
    · by_cases hn : len0 ≤ 1024
      · exact law_body (some a) len0 cap0 c W hn (fun _ h => by cases h; exact hr) (fun h => by cases h) (build_some a len0 cap0 c W hn hr)
      · exact law_long (some a) len0 cap0 W (by omega) hm
  clear hA0 hval0
  refine walk.mono fun e W' ⟨he, bel⟩ => ?_
  subst he
  exact ⟨_, rfl, _, _, _, [], _, [], hW', trodAll_mk1 (shut_bool Yba.underlying4 _), (trodAll_cons_mk (Below.trod laidOut (by kernel_rfl) (of_decide_eq_true (by kernel_rfl)) k0 bel lt0) trodAll_mk0), rfl, bel.frame _, fun h => by cases h⟩

theorem over : Rows.lawS2378CEachRow.holds Yba.pinned (OpenSpec.ofChange Rows.lawS2378CEachSpec) :=
  OpenClaim.holds_of_wide 3 Yba.f3 rfl rfl rfl rfl rfl rfl rfl ⟨rfl, rfl, rfl, rfl, rfl⟩ rfl rfl rfl rfl rfl (by kernel_rfl) Yba.func3 (by kernel_rfl)
    (of_decide_eq_true (by kernel_rfl)) (by unfold Func.isWrapper; first | (rw [if_pos (by decide +kernel)]; kernel_rfl) | (rw [if_neg (by decide +kernel)]; exact ⟨rfl, rfl⟩))
    (fun os started H enc _ => lifted os started H enc)

/-- The statement. -/
theorem proved : Rows.LawS2378CEachSaid := over
end Go.Proofs.Ybulkawfm.lawS2378CEach
