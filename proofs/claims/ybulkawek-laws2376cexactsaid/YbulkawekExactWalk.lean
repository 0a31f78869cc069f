import Derived.Test.YbulkawekWalks
namespace Go.Proofs.Ybulkawek
open Go.RowKit
set_option maxHeartbeats 400000 in
theorem exact_walk (r1 v1 l1 c1 n1 r2 v2 l2 c2 n2 : Int) (w : World) :
    Calls Yba.prog 3 #[.int .i64 r1, .int .u64 v1, .int .u64 l1, .int .u64 c1, .int .u64 n1, .int .i64 r2, .int .u64 v2, .int .u64 l2, .int .u64 c2, .int .u64 n2] w fun e w' =>
      e = .returned (.bool true) ∧ Grown w w' := by
  have hz := zero28
  go_enter Yba.func3, Yba.ntmps3
  go_wp2_with fail
  refine (mk_any _ _ _ _ _ _).mono ?_
  rintro e w1 ⟨rfl, rfl⟩
  go_wp2_with (refine wpList_store_row rfl 28 _ _ rfl (w.heap.size + 1) (prf r1 v1 l1 c1 n1) rfl rfl 28 (prf 0 0 0 0 0) (heap_at _ _ _ (by simp)) (size28 _ _ _ _ _) rfl (prf_one _ _ _ _ _) ?_; rw [setRow_at _ _ _ _ _ (by simp)])
  refine (mk_any _ _ _ _ _ _).mono ?_
  rintro e w1 ⟨rfl, rfl⟩
  go_wp2_with (first
    | (refine wpList_store_row rfl 28 _ _ rfl (w.heap.size + 3) (prf r2 v2 l2 c2 n2) rfl rfl 28 (prf 0 0 0 0 0) (heap_at _ _ _ (by simp)) (size28 _ _ _ _ _) rfl (prf_one _ _ _ _ _) ?_; rw [setRow_at _ _ _ _ _ (by simp)])
    | (refine wpList_load_row rfl 28 _ rfl (w.heap.size + 1) rfl 28 (prf r1 v1 l1 c1 n1) (0, 0) _ (heap_under _ (heap_under _ (heap_at _ _ _ (by simp)))) Yba.underlying28 rfl (size28 _ _ _ _ _) ?_)
    | (refine wpList_load_row rfl 28 _ rfl (w.heap.size + 3) rfl 28 (prf r2 v2 l2 c2 n2) (0, 0) _ (heap_at _ _ _ (by simp)) Yba.underlying28 rfl (size28 _ _ _ _ _) ?_))
  refine (above_any _ _ _ _ _ _ _ _ _ _ _).mono ?_
  rintro e w1 ⟨rfl, rfl⟩
  go_wp2_with fail
  refine (zz_any _ _ _ _ _).mono ?_
  rintro e w1 ⟨rfl, rfl⟩
  go_wp2
  go_ret
  exact ⟨ret_bool (by simp), by repeat (first | exact Grown.refl _ | apply Grown.drew | apply Grown.alloc)⟩
end Go.Proofs.Ybulkawek
