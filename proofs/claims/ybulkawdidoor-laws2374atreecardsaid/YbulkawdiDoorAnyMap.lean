import Derived.Test.YbulkawdiDoorAny
namespace Go.Proofs.YbulkawdiDoor
open Go.RowKit
open Go.ChangeMaps (setBlock)
open Go.MapKept (heap_set)

section
variable {P : Program} {ops : Array Oper} {rest : List Oper} {o : Oper} {a : Act} {w : World} {Q : Exit → Act → World → Prop}
/-- A range loop's step, what it hands out said by the caller. -/
theorem step_next (hg : o.guard = none) (it : Operand) (hop : o.op = Op.next it false) (r : Nat) (v : Value) (w' : World) (hit : a.eval it = .pointer (some ⟨r, 0, none⟩))
    (hrun : ∀ ty, (Instr.next (.pointer (some ⟨r, 0, none⟩)) false ty).run P w = .ok v w') (h : wpList P ops Q rest (a.put o.dst v) w') : wpList P ops Q (o :: rest) a w := by
  refine wpList_plain hg fun K' hK' => ?_
  unfold Oper.wp
  simp [execOp, hop, hit, hrun, Result.andThen]
  exact hK' _ _ h
/-- 'range m'. -/
theorem step_range (hg : o.guard = none) (m : Operand) (t : TypeId) (hop : o.op = Op.range t m) (b : Nat) (v : Value) (w' : World) (hm : a.eval m = .map (some b))
    (hrun : (Instr.range t (.map (some b))).run P w = .ok v w') (h : wpList P ops Q rest (a.put o.dst v) w') : wpList P ops Q (o :: rest) a w := by
  refine wpList_plain hg fun K' hK' => ?_
  unfold Oper.wp
  simp [execOp, hop, hm, hrun, Result.andThen]
  exact hK' _ _ h
end

/-- One step of the loop over a map. -/
theorem next_any {m : Int} {es : Array MapEntry} {clock : Nat} {F : MapEntry → List Int} {b r : Nat} {seen : Array Nat} {c ck : Int} {wr : World}
    (hst : Stamps es clock) (hR : Ranged m es clock F b r seen c ck wr) :
    ((leftOf es seen).size = 0 ∧ ∀ ty, (Instr.next (.pointer (some ⟨r, 0, none⟩)) false ty).run Ybad.prog wr = .ok (.tuple #[.bool false]) wr) ∨
    ∃ e W, e ∈ es.toList ∧ seen.contains e.born = false ∧ (leftOf es (seen.push e.born)).size < (leftOf es seen).size ∧
      (∀ ty, (Instr.next (.pointer (some ⟨r, 0, none⟩)) false ty).run Ybad.prog wr = .ok (.tuple #[.bool true, e.key, e.val]) W) ∧
      (Instr.entry (.pointer (some ⟨r, 0, none⟩))).run Ybad.prog W = .ok (.tuple #[e.key, e.val]) W ∧
      W.heap[r]? = some (.mapIter (some b) clock (seen.push e.born) clock) ∧ W.heap[b]? = some (.map es clock) ∧ wr.grownBy W (some r) := by
  obtain ⟨⟨c0, hc0, hr⟩, hb, _, _⟩ := hR
  rcases run_next_at (P := Ybad.prog) wr 0 r b clock c0 seen es clock hr hb hst.1 hc0 with ⟨h0, hrun⟩ | ⟨e, he, w1, hal, hrun⟩
  · exact .inl ⟨h0, fun ty => hrun⟩
  · right
    obtain ⟨hem, hes⟩ := mem_left he
    have hr1 : w1.heap[r]? = some (.mapIter (some b) clock seen c0) := by rcases hal with rfl | rfl <;> exact hr
    have hb1 : w1.heap[b]? = some (.map es clock) := by rcases hal with rfl | rfl <;> exact hb
    have hne : b ≠ r := fun h => by subst h; rw [hb] at hr; cases hr
    have e1 : (setBlock w1 r (.mapIter (some b) clock (seen.push e.born) clock)).heap[r]? = some (.mapIter (some b) clock (seen.push e.born) clock) := (heap_set hr1).1
    have e2 : (setBlock w1 r (.mapIter (some b) clock (seen.push e.born) clock)).heap[b]? = some (.map es clock) := by exact ((heap_set hr1).2 b hne).trans hb1
    refine ⟨e, _, hem, hes, left_shrinks es seen e he, fun ty => hrun, run_entry_at _ r b clock seen es clock e e1 e2 hem hst.2, e1, e2, ?_⟩
    have hg : w1.grownBy (setBlock w1 r (.mapIter (some b) clock (seen.push e.born) clock)) (some r) :=
      ⟨rfl, rfl, rfl, by simp [setBlock], fun k _ hk => (heap_set hr1).2 k (fun h => hk (by rw [h]))⟩
    rcases hal with rfl | rfl
    · exact hg
    · exact ⟨hg.os, hg.tape, hg.output, hg.size, hg.block⟩

/-- How many entries are to come, off the world. -/
def leftAt (wr : World) (b r : Nat) : Nat := wr.rangeLeft b r
theorem leftAt_eq {m : Int} {es : Array MapEntry} {clock : Nat} {F : MapEntry → List Int} {b r : Nat} {seen : Array Nat} {c ck : Int} {wr : World} (hR : Ranged m es clock F b r seen c ck wr) : leftAt wr b r = (leftOf es seen).size := by
  obtain ⟨⟨c0, _, hr⟩, hb, _, _⟩ := hR
  simp only [leftAt, World.rangeLeft, hb, hr]

set_option maxHeartbeats 1000000 in
/-- anywhere at a map. -/
theorem any_map (f : Value) (cc bb mm : Nat) (c m : Int) (n b clock : Nat) (es : Array MapEntry) (F : MapEntry → List Int) (w : World) (ih : AnyAt f cc bb mm m n)
    (hE : Env cc bb mm c m w) (h0 : 0 ≤ c) (h1 : c + (es.toList.flatMap F).length ≤ 1000000) (hb : w.heap[b]? = some (.map es clock)) (hst : Stamps es clock)
    (hi : ∀ x, x ∈ es.toList → Leafy 0 w n x.val (F x)) :
    Calls Ybad.prog 6 #[.iface 24 (.map (some b)), f] w fun e w' =>
      ∃ r c', e = .returned (.bool r) ∧ Ans m (es.toList.flatMap F) c c' r ∧ Env cc bb mm c' m w' ∧ w.grownBy w' (some cc) := by
  have IH : Hid (AnyAt f cc bb mm m n) := ih
  have HE : Hid (Env cc bb mm c m w) := hE
  have HI : Hid (∀ x, x ∈ es.toList → Leafy 0 w n x.val (F x)) := hi
  have HB : Hid (w.heap[b]? = some (.map es clock)) := hb
  have HL : Hid (c + (es.toList.flatMap F).length ≤ 1000000) := h1
  have HS : Hid (Stamps es clock) := hst
  clear ih hE hi hb h1 hst
  have a1 := assert23_24
  have a2 := assert24_24
  go_enter Ybad.func6, Ybad.ntmps6
  go_wp2_with (at_range; refine step_range rfl _ 24 rfl b _ _ rfl (run_range_map w 24 9 20 b es clock Ybad.underlying24 HB.out) ?_)
  go_frame
  go_loopw [30] (fun _ wr => ∃ (seen : Array Nat) (ck : Int), c ≤ ck ∧ Ranged m es clock F b w.heap.size seen c ck wr ∧ Env cc bb mm ck m wr ∧ w.grownBy wr (some cc)) (fun _ wr => leftAt wr b w.heap.size)
  case atStart =>
    refine ⟨#[], c, Int.le_refl _, ⟨⟨clock, Nat.le_refl _, heap_alloc_new _ _⟩, ?_, ?_, fun x _ h => by simp at h⟩, env_kept HE.out (World.grownBy_alloc _ _ _), World.grownBy_alloc _ _ _⟩
    · rw [Go.heap_alloc_old w _ (Array.getElem?_eq_some_iff.1 HB.out).1]; exact HB.out
    · rw [toCome_nil]
  case round =>
    obtain ⟨seen, ck, hcc, hR, hEr, hgr⟩ := hrel
    have HRm : Hid (Ranged m es clock F b w.heap.size seen c ck wr) := hR
    have HEr : Hid (Env cc bb mm ck m wr) := hEr
    have HGr : Hid (w.grownBy wr (some cc)) := hgr
    clear hR hEr hgr
    rcases next_any HS.out HRm.out with ⟨hz, hrun⟩ | ⟨e, W, hem, hes, hlt, hrun, hent, hWr, hWb, hWg⟩
    · have HZ : Hid ((leftOf es seen).size = 0) := hz
      clear hz
      go_wp2_with (at_next; refine step_next rfl _ rfl w.heap.size _ _ rfl hrun ?_)
      go_ret
      exact ⟨false, ck, rfl, ranged_all HRm.out HZ.out, HEr.out, HGr.out⟩
    · -- an entry has come
      have hrr := (HRm.out.1.choose_spec).2
      have hrc : some w.heap.size ≠ some cc := fun h => by
        have h1 := HE.out.1
        have h2 := (Array.getElem?_eq_some_iff.1 h1).1
        cases h; omega
      have HW : Hid (w.grownBy W (some cc)) := ⟨hWg.os.trans HGr.out.os, hWg.tape.trans HGr.out.tape, hWg.output.trans HGr.out.output, Nat.le_trans HGr.out.size hWg.size, fun k hk hne =>
        (hWg.block k (Nat.lt_of_lt_of_le hk HGr.out.size) (fun h => by cases h; omega)).trans (HGr.out.block k hk hne)⟩
      have HEW : Hid (Env cc bb mm ck m W) := by
        obtain ⟨h1, h2, h3, h4⟩ := HEr.out
        have p : ∀ (k : Nat) (o : Obj), wr.heap[k]? = some o → (∀ a b c d, o ≠ .mapIter a b c d) → W.heap[k]? = some o := fun k o hk ho => by
          rw [hWg.block k (Array.getElem?_eq_some_iff.1 hk).1 (fun h => by cases h; rw [hrr] at hk; cases hk; exact ho _ _ _ _ rfl), hk]
        exact ⟨p _ _ h1 (fun _ _ _ _ h => by cases h), p _ _ h2 (fun _ _ _ _ h => by cases h), p _ _ h3 (fun _ _ _ _ h => by cases h), h4⟩
      have HT : Hid (Leafy 0 W n e.val (F e)) := leafy_kept HW.out HE.out.1 n _ _ (HI.out e hem)
      have HWrb : Hid (W.heap[w.heap.size]? = some (.mapIter (some b) clock (seen.push e.born) clock) ∧ W.heap[b]? = some (.map es clock)) := ⟨hWr, hWb⟩
      have HM : Hid (e ∈ es.toList ∧ seen.contains e.born = false ∧ (leftOf es (seen.push e.born)).size < (leftOf es seen).size) := ⟨hem, hes, hlt⟩
      clear hrr hWg hWr hWb hem hes hlt
      go_wp2_with (at_next; refine step_next rfl _ rfl w.heap.size _ _ rfl hrun ?_)
      have hfl := flatMap_part (F := F) HS.out.2 HM.out.1 HM.out.2.1
      have hsum := HRm.out.2.2.1
      have hL := HL.out
      refine (IH.out e.val (F e) ck W HT.out HEW.out (by omega) (by omega)).mono ?_
      rintro ee w1 ⟨r, c', rfl, hans, hE1, hg1⟩
      have HA : Hid (Ans m (F e) ck c' r ∧ Env cc bb mm c' m w1 ∧ W.grownBy w1 (some cc)) := ⟨hans, hE1, hg1⟩
      clear hans hE1 hg1 hfl hsum hL
      have HF2 : Hid (w1.heap[w.heap.size]? = some (.mapIter (some b) clock (seen.push e.born) clock) ∧ w1.heap[b]? = some (.map es clock)) := by
        obtain ⟨q1, q2⟩ := HWrb.out
        refine ⟨?_, ?_⟩
        · rw [HA.out.2.2.block _ (Array.getElem?_eq_some_iff.1 q1).1 hrc, q1]
        · rw [HA.out.2.2.block _ (Array.getElem?_eq_some_iff.1 q2).1 (fun h => by cases h; have h1 := HEW.out.1; rw [q2] at h1; cases h1), q2]
      cases r
      · go_wp2_with fail
        have HN := ranged_step HS.out HRm.out HM.out.1 HM.out.2.1 HF2.out.1 HF2.out.2 HA.out.1
        go_roundw
        case rel => exact ⟨seen.push e.born, c', by have := HA.out.1.2.1 rfl; omega, HN, HA.out.2.1, grownBy_trans HW.out HA.out.2.2⟩
        case measure => rw [leftAt_eq HN, leftAt_eq HRm.out]; exact HM.out.2.2
      · go_wp2_with fail
        go_ret
        exact ⟨true, c', rfl, ranged_hit HS.out HRm.out hcc HM.out.1 HM.out.2.1 HA.out.1, HA.out.2.1, grownBy_trans HW.out HA.out.2.2⟩

/-- anywhere, at every tree. -/
theorem any_all (cc bb mm : Nat) (m : Int) (m0 : 2 ≤ m) (m1 : m ≤ 6) : ∀ n, AnyAt (fnv cc bb mm) cc bb mm m n
  | 0 => fun _ _ _ _ h => h.elim
  | n + 1 => fun v L c w h hE h0 h1 => by
    rcases h with ⟨x, rfl, rfl, hx⟩ | ⟨B, cap, C, Ls, rfl, _, hl, hB, rfl, hi⟩ | ⟨b, clock, es, F, rfl, _, hb, hst, rfl, hi⟩
    · exact any_leaf cc bb mm c m x w hE h0 (by simpa using h1) m0 m1 hx
    · exact any_slice (fnv cc bb mm) cc bb mm c m n B cap C Ls w (any_all cc bb mm m m0 m1 n) hE h0 h1 hl hB hi
    · exact any_map (fnv cc bb mm) cc bb mm c m n b clock es F w (any_all cc bb mm m m0 m1 n) hE h0 h1 hb hst hi
end Go.Proofs.YbulkawdiDoor
