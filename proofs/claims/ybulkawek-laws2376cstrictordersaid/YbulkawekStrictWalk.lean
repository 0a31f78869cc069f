import Derived.Test.YbulkawekWalks
namespace Go.Proofs.Ybulkawek
open Go.RowKit
set_option maxHeartbeats 800000 in
theorem strict_walk (l1 c1 n1 l2 c2 n2 : Int) (w : World) :
    Calls Yba.prog 4 #[.int .u64 l1, .int .u64 c1, .int .u64 n1, .int .u64 l2, .int .u64 c2, .int .u64 n2] w fun e w' =>
      e = .returned (.bool true) ∧ Grown w w' := by
  have hz := zero28
  have hself := above_self l1 n1
  have hboth := above_both l1 n1 l2 n2
  have hnone := above_none l1 n1 l2 n2
  have HB : Hid ((aboveB l1 n1 l2 n2 && aboveB l2 n2 l1 n1) = false) := hboth
  have HN : Hid (aboveB l1 n1 l2 n2 = false → aboveB l2 n2 l1 n1 = false → l1 = l2 ∧ n1 = n2) := hnone
  clear hboth hnone
  go_enter Yba.func4, Yba.ntmps4
  go_wp2_with fail
  refine (mk_any _ _ _ _ _ _).mono ?_
  rintro e w1 ⟨rfl, rfl⟩
  go_wp2_with (refine wpList_store_row rfl 28 _ _ rfl (w.heap.size + 1) (prf 0 1 l1 c1 n1) rfl rfl 28 (prf 0 0 0 0 0) (heap_at _ _ _ (by simp)) (size28 _ _ _ _ _) rfl (prf_one _ _ _ _ _) ?_; rw [setRow_at _ _ _ _ _ (by simp)])
  refine (mk_any _ _ _ _ _ _).mono ?_
  rintro e w1 ⟨rfl, rfl⟩
  go_wp2_with (first
    | (refine wpList_store_row rfl 28 _ _ rfl (w.heap.size + 3) (prf 1 1 l2 c2 n2) rfl rfl 28 (prf 0 0 0 0 0) (heap_at _ _ _ (by simp)) (size28 _ _ _ _ _) rfl (prf_one _ _ _ _ _) ?_; rw [setRow_at _ _ _ _ _ (by simp)])
    | (refine wpList_load_row rfl 28 _ rfl (w.heap.size + 1) rfl 28 (prf 0 1 l1 c1 n1) (0, 0) _ (heap_under _ (heap_under _ (heap_at _ _ _ (by simp)))) Yba.underlying28 rfl (size28 _ _ _ _ _) ?_)
    | (refine wpList_load_row rfl 28 _ rfl (w.heap.size + 3) rfl 28 (prf 1 1 l2 c2 n2) (0, 0) _ (heap_at _ _ _ (by simp)) Yba.underlying28 rfl (size28 _ _ _ _ _) ?_))
  refine (above_any _ _ _ _ _ _ _ _ _ _ _).mono ?_
  rintro e w1 ⟨rfl, rfl⟩
  go_wp2_with (first
    | (refine wpList_load_row rfl 28 _ rfl (w.heap.size + 1) rfl 28 (prf 0 1 l1 c1 n1) (0, 0) _ (heap_under _ (heap_under _ (heap_under _ (heap_under _ (heap_at _ _ _ (by simp)))))) Yba.underlying28 rfl (size28 _ _ _ _ _) ?_)
    | (refine wpList_load_row rfl 28 _ rfl (w.heap.size + 3) rfl 28 (prf 1 1 l2 c2 n2) (0, 0) _ (heap_under _ (heap_under _ (heap_at _ _ _ (by simp)))) Yba.underlying28 rfl (size28 _ _ _ _ _) ?_))
  refine (above_any _ _ _ _ _ _ _ _ _ _ _).mono ?_
  rintro e w1 ⟨rfl, rfl⟩
  -- the law's three ways
  rcases hp : aboveB l1 n1 l2 n2 with _ | _
  · rcases hq : aboveB l2 n2 l1 n1 with _ | _
    · obtain ⟨rfl, rfl⟩ := HN.out hp hq
      clear hp hq HB HN
      go_wp2_with (refine wpList_load_row rfl 28 _ rfl (w.heap.size + 1) rfl 28 (prf 0 1 l1 c1 n1) (0, 0) _ (heap_under _ (heap_under _ (heap_under _ (heap_under _ (heap_under _ (heap_under _ (heap_at _ _ _ (by simp)))))))) Yba.underlying28 rfl (size28 _ _ _ _ _) ?_)
      refine (above_any _ _ _ _ _ _ _ _ _ _ _).mono ?_
      rintro e w1 ⟨rfl, rfl⟩
      go_wp2
      go_ret
      exact ⟨rfl, by repeat (first | exact Grown.refl _ | apply Grown.drew | apply Grown.alloc)⟩
    · clear hp hq HB HN
      go_wp2_with (refine wpList_load_row rfl 28 _ rfl (w.heap.size + 1) rfl 28 (prf 0 1 l1 c1 n1) (0, 0) _ (heap_under _ (heap_under _ (heap_under _ (heap_under _ (heap_under _ (heap_under _ (heap_at _ _ _ (by simp)))))))) Yba.underlying28 rfl (size28 _ _ _ _ _) ?_)
      refine (above_any _ _ _ _ _ _ _ _ _ _ _).mono ?_
      rintro e w1 ⟨rfl, rfl⟩
      go_wp2
      go_ret
      exact ⟨rfl, by repeat (first | exact Grown.refl _ | apply Grown.drew | apply Grown.alloc)⟩
  · have hq : aboveB l2 n2 l1 n1 = false := by have := HB.out; simpa [hp] using this
    rw [hq]
    clear hp hq HB HN
    go_wp2_with (refine wpList_load_row rfl 28 _ rfl (w.heap.size + 1) rfl 28 (prf 0 1 l1 c1 n1) (0, 0) _ (heap_under _ (heap_under _ (heap_under _ (heap_under _ (heap_under _ (heap_under _ (heap_at _ _ _ (by simp)))))))) Yba.underlying28 rfl (size28 _ _ _ _ _) ?_)
    refine (above_any _ _ _ _ _ _ _ _ _ _ _).mono ?_
    rintro e w1 ⟨rfl, rfl⟩
    go_wp2
    go_ret
    exact ⟨rfl, by repeat (first | exact Grown.refl _ | apply Grown.drew | apply Grown.alloc)⟩
end Go.Proofs.Ybulkawek
