import Derived.Test.YbulkawekRows
import Derived.WalkKit
import Derived.ProofKit
import Derived.OpenShut
import Derived.RowKit3
import Derived.Laws.Rows
namespace Go.Proofs.Ybulkawek
open Go.RowKit

/-! Two small laws of one operation each: what is laid is said by the caller. -/
section
variable {P : Program} {ops : Array Oper} {rest : List Oper} {o : Oper} {a : Act} {w : World} {Q : Exit → Act → World → Prop}
theorem step_build (hg : o.guard = none) (t : TypeId) (parts : Array (Nat × Operand)) (ho : o.op = .build t parts)
    (cells : Array Value) (hf : P.built t (parts.map fun (i, x) => (i, a.eval x)).toList = some cells)
    (h : wpList P ops Q rest (a.put o.dst (.agg cells)) w) : wpList P ops Q (o :: rest) a w := by
  refine wpList_build hg t parts ho (by rw [hf]; rfl) ?_
  rw [hf]
  exact h
theorem setRow_new (w : World) (old cells : Array Value) (t : TypeId) : (w.alloc (.cells old t)).setRow w.heap.size cells = w.alloc (.cells cells t) := by
  have e : (w.heap.push (Obj.cells old t)).modify w.heap.size (fun | .cells _ elem frozen => .cells cells elem frozen | o => o) = w.heap.push (.cells cells t) := by
    apply Array.ext_getElem?
    intro i
    simp only [Array.getElem?_modify, Array.getElem?_push]
    by_cases h : w.heap.size = i
    · subst h; simp
    · simp [h, show ¬ i = w.heap.size from fun e => h e.symm]
  unfold World.setRow World.alloc
  exact congrArg (fun hp => { w with heap := hp }) e
theorem setRow_at (w : World) (g : Nat) (old cells : Array Value) (t : TypeId) (h : g = w.heap.size) : (w.alloc (.cells old t)).setRow g cells = w.alloc (.cells cells t) := by
  subst h; exact setRow_new w old cells t
theorem heap_at (w : World) (o : Obj) (g : Nat) (h : g = w.heap.size) : (w.alloc o).heap[g]? = some o := by
  subst h; exact heap_alloc_new w o
theorem heap_under {w : World} {x : Obj} {g : Nat} (o : Obj) (h : w.heap[g]? = some x) : (w.alloc o).heap[g]? = some x := by
  have hlt : g < w.heap.size := (Array.getElem?_eq_some_iff.1 h).1
  rw [Go.heap_alloc_old w o hlt, h]
end

/-- The cells of a Stamp that bears a counter and a view, all else zero. -/
def stp (c lv : Int) : Array Value := #[.int .u8 0, .int .u8 0, .int .u8 0, .int .u8 0, .int .u8 0, .int .u8 0, .int .u8 0, .int .u8 0, .int .u8 0, .int .u8 0, .int .u8 0, .int .u8 0, .int .u8 0, .int .u8 0, .int .u8 0, .int .u8 0, .int .u8 0, .int .u8 0, .int .u8 0, .int .u8 0, .int .u8 0, .int .u8 0, .int .u8 0, .int .u8 0, .int .u8 0, .int .u8 0, .int .u8 0, .int .u8 0, .int .u8 0, .int .u8 0, .int .u8 0, .int .u8 0, .int .u8 0, .int .u8 0, .int .u8 0, .int .u8 0, .int .u8 0, .int .u8 0, .int .u8 0, .int .u8 0, .int .u8 0, .int .u8 0, .int .u8 0, .int .u8 0, .int .u8 0, .int .u8 0, .int .u8 0, .int .u8 0, .int .u8 0, .int .u8 0, .int .u8 0, .int .u8 0, .int .u8 0, .int .u8 0, .int .u8 0, .int .u8 0, .int .u8 0, .int .u8 0, .int .u8 0, .int .u8 0, .int .u8 0, .int .u8 0, .int .u8 0, .int .u8 0, .int .u64 c, .int .u64 lv, .slice none 0 0]
/-- The cells of a LogProof. -/
def prf (rep view lv c n : Int) : Array Value := #[.int .i64 rep, .int .u64 view, .int .u8 0, .int .u8 0, .int .u8 0, .int .u8 0, .int .u8 0, .int .u8 0, .int .u8 0, .int .u8 0, .int .u8 0, .int .u8 0, .int .u8 0, .int .u8 0, .int .u8 0, .int .u8 0, .int .u8 0, .int .u8 0, .int .u8 0, .int .u8 0, .int .u8 0, .int .u8 0, .int .u8 0, .int .u8 0, .int .u8 0, .int .u8 0, .int .u8 0, .int .u8 0, .int .u8 0, .int .u8 0, .int .u8 0, .int .u8 0, .int .u8 0, .int .u8 0, .int .u8 0, .int .u8 0, .int .u8 0, .int .u8 0, .int .u8 0, .int .u8 0, .int .u8 0, .int .u8 0, .int .u8 0, .int .u8 0, .int .u8 0, .int .u8 0, .int .u8 0, .int .u8 0, .int .u8 0, .int .u8 0, .int .u8 0, .int .u8 0, .int .u8 0, .int .u8 0, .int .u8 0, .int .u8 0, .int .u8 0, .int .u8 0, .int .u8 0, .int .u8 0, .int .u8 0, .int .u8 0, .int .u8 0, .int .u8 0, .int .u8 0, .int .u8 0, .int .u64 c, .int .u64 lv, .slice none 0 0, .int .u64 n, .slice none 0 0]
theorem prf_size (rep view lv c n : Int) : (prf rep view lv c n).size = 71 := rfl
theorem prf_view (rep view lv c n : Int) (h : 67 < (prf rep view lv c n).size) : (prf rep view lv c n)[67] = .int .u64 lv := rfl
theorem prf_next (rep view lv c n : Int) (h : 69 < (prf rep view lv c n).size) : (prf rep view lv c n)[69] = .int .u64 n := rfl
theorem prf_one (rep view lv c n : Int) : (prf rep view lv c n).all (·.oneCell') = true := by kernel_rfl
theorem zero28 (w : World) : (zeroValue 28).run Yba.prog w = .ok (.agg (prf 0 0 0 0 0)) w := by kernel_rfl
theorem size28 (rep view lv c n : Int) : (Yba.prog.info? 28).map (·.size) = some (prf rep view lv c n).size := by kernel_rfl
theorem ret_bool {a b : Bool} (h : b = a) : Ending.returned (.bool a) = .returned (.bool b) := by rw [h]

set_option maxHeartbeats 400000 in
/-- zzs2376cmk: a LogProof of the given parts; one new block (the result's variable). -/
theorem mk_any (rep view lv c n : Int) (w : World) :
    Calls Yba.prog 5 #[.int .i64 rep, .int .u64 view, .int .u64 lv, .int .u64 c, .int .u64 n] w fun e w' =>
      e = .returned (.agg (prf rep view lv c n)) ∧ w' = w.alloc (.cells (prf rep view lv c n) 28) := by
  have hz := zero28
  go_enter Yba.func5, Yba.ntmps5
  go_wp2_with (first
    | (refine step_build rfl 26 _ rfl (stp c lv) (by kernel_rfl) ?_)
    | (refine step_build rfl 28 _ rfl (prf rep view lv c n) (by kernel_rfl) ?_)
    | (refine wpList_store_row rfl 28 _ _ rfl w.heap.size (prf rep view lv c n) rfl rfl 28 (prf 0 0 0 0 0) (heap_alloc_new _ _) (size28 _ _ _ _ _) rfl (prf_one _ _ _ _ _) ?_; rw [setRow_new]))
  refine bodyPost_ret (v := .agg (prf rep view lv c n)) ?_ rfl ⟨rfl, rfl⟩
  exact results_cell_row Yba.results5 _ _ w.heap.size 28 (prf rep view lv c n) (0, 0) _ rfl (heap_alloc_new _ _) Yba.underlying28 rfl (size28 _ _ _ _ _)

/-- What Above answers: by the last view, then by Next. -/
def aboveB (pv pn qv qn : Int) : Bool := if pv = qv then decide (qn < pn) else decide (qv < pv)

set_option maxHeartbeats 400000 in
/-- LogProof.Above; two new blocks (the parameters' variables). -/
theorem above_any (r1 v1 l1 c1 n1 r2 v2 l2 c2 n2 : Int) (w : World) :
    Calls Yba.prog 6 #[.agg (prf r1 v1 l1 c1 n1), .agg (prf r2 v2 l2 c2 n2)] w fun e w' =>
      e = .returned (.bool (aboveB l1 n1 l2 n2)) ∧ w' = (w.alloc (.cells (prf r1 v1 l1 c1 n1) 28)).alloc (.cells (prf r2 v2 l2 c2 n2) 28) := by
  have hs := prf_size
  have hv := prf_view
  have hn := prf_next
  by_cases e : l1 = l2
  · subst e
    have E : Hid (aboveB l1 n1 l1 n2 = decide (n2 < n1)) := by simp [aboveB, Hid]
    go_enter Yba.func6, Yba.ntmps6
    go_wp2
    go_ret
    exact ⟨ret_bool E.out, rfl⟩
  · have e' : (l1 == l2) = false := by simp [e]
    have E : Hid (aboveB l1 n1 l2 n2 = decide (l2 < l1)) := by simp [aboveB, Hid, e]
    go_enter Yba.func6, Yba.ntmps6
    go_wp2
    go_ret
    exact ⟨ret_bool E.out, rfl⟩

/-- zzs2376cabove: the same answer. -/
theorem zz_any (pv pn qv qn : Int) (w : World) :
    Calls Yba.prog 7 #[.int .u64 pv, .int .u64 pn, .int .u64 qv, .int .u64 qn] w fun e w' =>
      e = .returned (.bool (aboveB pv pn qv qn)) ∧ w' = w := by
  by_cases h1 : qv < pv
  · have E : Hid (aboveB pv pn qv qn = true) := by simp [aboveB, Hid, show ¬ pv = qv by omega, h1]
    go_enter Yba.func7, Yba.ntmps7
    go_wp2
    go_ret
    exact ⟨ret_bool E.out, rfl⟩
  · by_cases h2 : pv < qv
    · have E : Hid (aboveB pv pn qv qn = false) := by simp [aboveB, Hid, show ¬ pv = qv by omega]; omega
      go_enter Yba.func7, Yba.ntmps7
      go_wp2
      go_ret
      exact ⟨ret_bool E.out, rfl⟩
    · have E : Hid (aboveB pv pn qv qn = decide (qn < pn)) := by simp [aboveB, Hid, show pv = qv by omega]
      go_enter Yba.func7, Yba.ntmps7
      go_wp2
      go_ret
      exact ⟨ret_bool E.out, rfl⟩

/-! The plain law: 'above' is a strict order whose incomparable pairs are equal. -/
theorem above_both (a b c d : Int) : (aboveB a b c d && aboveB c d a b) = false := by
  by_cases h : a = c
  · subst h; simp [aboveB]; omega
  · have h' : ¬ c = a := fun e => h e.symm
    simp [aboveB, h, h']; omega
theorem above_self (a b : Int) : aboveB a b a b = false := by simp [aboveB]
theorem above_none (a b c d : Int) (h1 : aboveB a b c d = false) (h2 : aboveB c d a b = false) : a = c ∧ b = d := by
  unfold aboveB at h1 h2
  by_cases h : a = c
  · subst h; simp at h1 h2; exact ⟨rfl, by omega⟩
  · have h' : ¬ c = a := fun e => h e.symm
    simp [h, h'] at h1 h2; omega
end Go.Proofs.Ybulkawek
