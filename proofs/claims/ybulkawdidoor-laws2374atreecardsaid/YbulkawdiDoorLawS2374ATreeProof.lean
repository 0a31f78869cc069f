import Derived.Test.YbulkawdiDoorRows
import Derived.WalkKit
import Derived.ProofKit
import Derived.OpenShut
import Derived.ShutString
import Derived.ChangeOld
import Derived.Below
import Derived.Deep.Slices
import Derived.LaidMore
import Derived.Lib.LaidTab
import Derived.Stop.Joined
import Derived.Test.YbulkawdiDoorShelf
import Derived.Test.YbulkawdiDoorLawLong
namespace Go.Proofs.YbulkawdiDoor.lawS2374ATree
open Go.ChangeShapes Go.WideShapes Go.ChangeAt Go.RowKit
open Go.Deep (open_slice choose_lt)
set_option linter.unusedVariables false

theorem own : ownKnob Ybad.prog.godebug = none := by kernel_rfl
theorem laidOut : laidOutB Ybad.prog = true := by kernel_rfl
theorem cells26 : Ybad.prog.cellsOf 26 = 2 := by kernel_rfl
theorem cells5 : Ybad.prog.cellsOf 5 = 1 := by kernel_rfl
theorem cells3 : Ybad.prog.cellsOf 3 = 1 := by kernel_rfl

/-! ### strconv.Itoa in every world behind the laid one -/
theorem grownBy_grow (w : World) (k : Nat) (os : Array Obj) : w.grownBy (Sort.grow (w.drewN k) os) none := by
  refine ⟨rfl, rfl, rfl, ?_, fun b hb _ => ?_⟩
  · show w.heap.size ≤ (w.heap ++ os).size
    simp
  · show (w.heap ++ os)[b]? = w.heap[b]?
    rw [Array.getElem?_append_left hb]

/-- The table's name, off the row. -/
def tabName : String := (Rows.lawS2374ATreeRow.laid.map (·.1)).getD 2 ""
/-- The row's listed variables. -/
abbrev laid3 : List (String × DataW Unit) := Rows.lawS2374ATreeRow.laid

theorem itoa_in {w : World} (htab : Lib.TabIs Ybad.prog w tabName .u64 Lib.pow10Tab) : ItoaIn w := fun n hn =>
  (Any.strconv_Itoa Ybad.laysM171 (n : Int) (by omega) (by omega) w htab).mono fun e w' ⟨he, k, os, hw⟩ => by
    subst he hw
    exact ⟨rfl, grownBy_grow w k os⟩

theorem gTab : Ybad.prog.globalNamed tabName = some 0 := by kernel_rfl
theorem tTab : (Ybad.prog.globals[0]?).map (·.type) = some 43 := by kernel_rfl
theorem cells43 : Ybad.prog.cellsOf 43 = 20 := by kernel_rfl
theorem cells35 : Ybad.prog.cellsOf 35 = 1 := by kernel_rfl
theorem datum : (Rows.laid_internal_strconv_uint64pow10 : DataW Unit) = Lib.tabData .u64 Lib.pow10Tab := by kernel_rfl

theorem tab_of_laid {W : World} (h : laidMetH Ybad.prog laid3 W) : Lib.TabIs Ybad.prog W tabName .u64 Lib.pow10Tab := by
  rw [MakeChecks.laidMetH_plain _ _ _ (by kernel_rfl)] at h
  obtain ⟨ps, ⟨_, _, _, _, _, _, _, _, _, _, ⟨_, _, _, _, _, _, _, _, _, _, ⟨g2, t2, cs2, f2, p2, q2, hg2, ht2, hv2, hd2, _, _⟩, _⟩, _⟩, _, _⟩ := h
  obtain rfl := Option.some.inj (gTab.symm.trans hg2)
  obtain rfl := Option.some.inj (tTab.symm.trans ht2)
  have hd2' : DataW.trod (fun _ => ()) Ybad.prog W 0 (fun _ => true) false f2 43 cs2.toList = some (Lib.tabData .u64 Lib.pow10Tab, p2) := by rw [← datum]; exact hd2
  unfold Lib.TabIs
  have := Lib.cells_of_tab Ybad.underlying43 Ybad.underlying35 cells35 cells43 hd2'
  rw [← this, Array.toArray_toList]
  exact hv2

theorem tab_below {W W' : World} (h : Lib.TabIs Ybad.prog W tabName .u64 Lib.pow10Tab) (hb : Below W.heap.size W W') : Lib.TabIs Ybad.prog W' tabName .u64 Lib.pow10Tab := by
  have h0 := Lib.TabIs.cell h gTab 0 (by decide)
  have hlt : 0 < W.heap.size := World.block_lt_of_cell? W _ h0
  unfold Lib.TabIs World.var? at h ⊢
  simp only [gTab, Option.bind_some] at h ⊢
  rw [hb.block 0 hlt]
  exact h

/-- The door's own heap meets the condition. -/
theorem door_met (os : Os) (args : Array Value) : laidMetH Ybad.prog laid3 ((World.doorLaid Ybad.prog 400 os).forCall (fun _ _ => 0) ⟨#[], args, []⟩).memory :=
  laidMetH_of_parts3 (fuel := 8) (laidMet_of_run' 8 (by kernel_rfl) (by kernel_rfl)) (by kernel_rfl) (by kernel_rfl)

/-! ### The argument opened -/
theorem open_item {H : Type} {enc : TypeId × Value → H} {w : World} {base : Nat} {spare : Nat → Bool} {held : Bool} {fuel : Nat} {cs : List Value} {x : DataW H × List MemPlace}
    (h : DataW.trod enc Ybad.prog w base spare held fuel 26 cs = some x) :
    ∃ (i v : Int), cs = [.int .u8 i, .int .i64 v] ∧ (0 ≤ i ∧ i ≤ 255) ∧ In64 v := by
  obtain ⟨y0, y1, n, _, hlen, h0, h1⟩ := trod_struct2 Ybad.underlying26 h
  rw [cells26] at hlen
  obtain ⟨c0, c1, rfl⟩ : ∃ c0 c1, cs = [c0, c1] := by
    match cs, hlen with
    | [c0, c1], _ => exact ⟨c0, c1, rfl⟩
  simp only [cells5, cells3] at h0 h1
  obtain ⟨i, e0, _, w0⟩ := DataW.trod_int Ybad.underlying5 h0
  obtain ⟨v, e1, _, w1⟩ := DataW.trod_int Ybad.underlying3 h1
  simp at e0 e1
  subst e0 e1
  exact ⟨i, v, rfl, bounds_u8 w0, bounds_i64 w1⟩

theorem open_items {H : Type} {enc : TypeId × Value → H} {W : World} {spare : Nat → Bool} {held : Bool} {fuel : Nat} {a0 : Option Addr} {len cap : Nat} {x : DataW H × List MemPlace}
    (h : DataW.trod enc Ybad.prog W 0 spare held fuel 22 [.slice a0 len cap] = some x) :
    (a0 = none ∧ len = 0 ∧ cap = 0) ∨ ∃ (a : Addr) (c : Items), a0 = some a ∧ len ≤ maxLen ∧ ItemsAt c len a W := by
  rcases open_slice Ybad.underlying22 h with ⟨hcs, _⟩ | ⟨a, len', cap', m, n, D, Pl, hcs, _, hl, hm, hmm, _, hx⟩
  · simp at hcs; exact .inl hcs
  right
  simp at hcs
  obtain ⟨rfl, rfl, rfl⟩ := hcs
  have hlm : len ≤ m := by rw [hmm]; split <;> omega
  have each : ∀ i, i < len → ∃ q : Int × Int, W.cells? 0 (a.add (i * 2)) 2 = some [.int .u8 q.1, .int .i64 q.2] ∧ (0 ≤ q.1 ∧ q.1 ≤ 255) ∧ In64 q.2 := fun i hi => by
    obtain ⟨cs', h1, h2⟩ := hx i (by omega)
    rw [cells26] at h1
    obtain ⟨k, v, rfl, b0, b1⟩ := open_item h2
    exact ⟨(k, v), h1, b0, b1⟩
  obtain ⟨f, hf⟩ := choose_lt each
  refine ⟨a, ⟨fun i => (f i).1, fun i => (f i).2⟩, rfl, by omega, fun hpos => ?_⟩
  obtain ⟨b, off, spot⟩ := a
  have hc : ∀ i, i < len → ∀ j, j < 2 → W.cell? (((⟨b, off, spot⟩ : Addr).add (i * 2)).add j) = ([.int .u8 (f i).1, .int .i64 (f i).2] : List Value)[j]? := fun i hi j hj =>
    (World.cells?_some (hf i hi).1).2.2 j hj
  have hspot : spot = none := by
    have h0 := hc 0 hpos 0 (by omega)
    have e : ((⟨b, off, spot⟩ : Addr).add (0 * 2)).add 0 = ⟨b, off, spot⟩ := rfl
    rw [e] at h0
    exact World.cell?_spot (a := ⟨b, off, spot⟩) h0
  subst hspot
  have hadd : ∀ i j, ((⟨b, off, none⟩ : Addr).add (i * 2)).add j = ⟨b, off + i * 2 + j, none⟩ := fun i j => by
    rw [Addr.add_lit, Addr.add_lit]
  refine ⟨b, off, rfl, ?_, fun i hi => ⟨?_, ?_, (hf i hi).2.1, (hf i hi).2.2⟩⟩
  · have := hc 0 hpos 0 (by omega)
    rw [hadd] at this
    exact World.block_lt_of_cell? W _ this
  · have := hc i hi 0 (by omega); rw [hadd] at this; simpa using this
  · have := hc i hi 1 (by omega); rw [hadd] at this; simpa using this

/-! ### The row -/
set_option maxRecDepth 100000 in
theorem lifted (os : Os) (started : os.Started) (H : Type) (enc : TypeId × Value → H) :
    ReturnsInHanded {} Ybad.checked os 3 .any (fun w args => (Rows.lawS2374ATreeSpec.pre enc Ybad.prog Ybad.f3 [] false w args ∧ laidMetH Ybad.prog laid3 w) ∧ sizedMet enc Ybad.prog Ybad.f3 (OpenSpec.ofChange Rows.lawS2374ATreeSpec) false w args)
      (Rows.lawS2374ATreeSpec.post enc Ybad.prog Ybad.f3 false true false false) := by
  refine returnsInHanded_of_change_and (C := Ybad.checked) (X := fun w _ => laidMetH Ybad.prog laid3 w) (fun _ _ _ hh h => h.of_heap hh) own started (by kernel_rfl) Ybad.func3
    (ChangeSpec.witness_shaped (enc := enc) (C := Ybad.checked) (os := os) (X := fun w _ => laidMetH Ybad.prog laid3 w) false (World.doorLaid Ybad.prog 400 os) #[.slice none 0 0, .int .u8 0] 8 rfl (World.shaped_of_RefB (by kernel_rfl) (by kernel_rfl)) (by kernel_rfl) (by kernel_rfl) (by kernel_rfl) (door_met os _)) ?_
  intro W base args ds gs before hval0 hW _ _ hL _
  have hval : ∀ (j : Nat) t v, Ybad.f3.params[j]? = some t → args[j]? = some v → Value.okWide Ybad.prog W .any base t v := hval0
  have hW' := hW
  obtain ⟨p, q, hA0, hV, rfl, hfz, hnd⟩ := hW
  have hA : DataW.TrodAll enc Ybad.prog W 0 (fun _ => true) true Ybad.f3.params.toList args.toList ds p := hA0
  rw [Ybad.params3] at hA hval
  obtain ⟨v0, vs0, d0, ds0, p0, q0, hargs, rfl, rfl, h0, r0⟩ := trodAll_cons hA
  obtain ⟨v1, vs1, d1, ds1, p1, q1, rfl, rfl, rfl, h1, r1⟩ := trodAll_cons r0
  obtain ⟨rfl, rfl, rfl⟩ := trodAll_nil r1
  obtain rfl : args = #[v0, v1] := by cases args; simp_all
  obtain ⟨rfl, rfl⟩ := trodVars_none hV
  obtain ⟨a0, len0, cap0, rfl⟩ := okWide_slice Ybad.underlying22 (hval 0 22 v0 rfl rfl)
  have k0 := h0
  have lt0 : ∀ x ∈ p0, x.block < W.heap.size := by obtain ⟨m, hm⟩ := k0; exact DataW.trod_lt m _ _ _ hm
  obtain ⟨a1, rfl, rfl, rfl, w1⟩ := open_int Ybad.underlying5 (hval 1 5 v1 rfl rfl) h1
  have b1 := bounds_u8 w1
  have hIt : ∀ W', Below W.heap.size W W' → ItoaIn W' := fun W' hb => itoa_in (tab_below (tab_of_laid hL) hb)
  have walk : Calls Ybad.prog 3 #[.slice a0 len0 cap0, .int .u8 a1] W fun e w' => e = .returned (.bool true) ∧ Below W.heap.size W w' := by
    obtain ⟨fuel, hf⟩ := h0
    rcases open_items (by simpa [Value.cells] using hf) with ⟨rfl, rfl, rfl⟩ | ⟨a, c, rfl, hm, hr⟩
    · exact law_core none 0 0 ⟨fun _ => 0, fun _ => 0⟩ a1 W (by omega) b1.1 b1.2 (fun _ h => by cases h) (fun _ => rfl) hIt
    · by_cases hn : len0 ≤ 1024
      · exact law_core (some a) len0 cap0 c a1 W hn b1.1 b1.2 (fun _ h => by cases h; exact hr) (fun h => by cases h) hIt
      · exact law_long (some a) len0 cap0 a1 W (by omega) hm
  clear hA0 hval0
  refine walk.mono fun e W' ⟨he, bel⟩ => ?_
  subst he
  exact ⟨_, rfl, _, _, _, [], _, [], hW', trodAll_mk1 (shut_bool Ybad.underlying4 _), (trodAll_cons_mk (Below.trod laidOut (by kernel_rfl) (of_decide_eq_true (by kernel_rfl)) k0 bel lt0) (trodAll_cons_mk (shut_int Ybad.underlying5 w1) trodAll_mk0)), rfl, bel.frame _, fun h => by cases h⟩

theorem row_holds : Rows.LawS2374ATreeSaid :=
  OpenClaim.holds_of_wide 3 Ybad.f3 rfl rfl rfl rfl rfl rfl rfl ⟨rfl, rfl, rfl, rfl, rfl⟩ rfl rfl rfl rfl rfl (by kernel_rfl) Ybad.func3 (by kernel_rfl)
    (of_decide_eq_true (by kernel_rfl)) (by unfold Func.isWrapper; first | (rw [if_pos (by decide +kernel)]; kernel_rfl) | (rw [if_neg (by decide +kernel)]; exact ⟨rfl, rfl⟩))
    (fun os started H enc _ => lifted os started H enc)
end Go.Proofs.YbulkawdiDoor.lawS2374ATree
