import Derived.Test.YbulkaweySortInsert
namespace Go.Proofs.Ybulkawey
open Go.RowKit
set_option linter.unusedVariables false

set_option maxRecDepth 100000 in
set_option maxHeartbeats 4000000 in
/-- symMerge where the left run is one element. -/
theorem sym_first (G N : Nat) (f : Nat → App) (ai mi bi : Int) (a b : Nat) (ha : ai = a) (hm : mi = ((a + 1 : Nat) : Int)) (hb : bi = b) (w : World) (hN : N ≤ 1000) (hab : a + 1 ≤ b) (hbN : b ≤ N) (hrow : RowF G N f w)
    (hsR : Sorted App.call f (a + 1) b) :
    Calls Yba.prog 23 #[.slice (some ⟨G, 0, none⟩) N N, .int .i64 ai, .int .i64 mi, .int .i64 bi, cfv] w fun e w' =>
      e = .returned (.tuple #[]) ∧ (∃ g, Keeps App.call f g a b ∧ Sorted App.call g a b ∧ RowF G N g w') ∧ w.grownBy w' (some G) := by
  subst ha hb
  have HR : Hid (RowF G N f w) := hrow
  have HS : Hid (Sorted App.call f (a + 1) b) := hsR
  clear hrow hsR
  have q1 : ((mi - (a : Int)) == 1) = true := by simp; omega
  have m0 : 0 ≤ mi := by omega
  have m1 : mi ≤ 1001 := by omega
  have HM : Hid (mi = ((a + 1 : Nat) : Int)) := hm
  clear hm
  go_enter Yba.func23, Yba.ntmps23
  go_wp2_with fail
  go_loopw [10, 11] (fun i' j' wr => ∃ (i j : Nat), a + 1 ≤ i ∧ i ≤ j ∧ j ≤ b ∧ i' = .int .i64 i ∧ j' = .int .i64 j ∧ (∀ t, a + 1 ≤ t → t < i → (f t).call < (f a).call) ∧ (j < b → (f a).call ≤ (f j).call) ∧ RowF G N f wr ∧ w.grownBy wr (some G)) (fun i j _ => (intOf j).toNat - (intOf i).toNat)
  case atStart => exact ⟨a + 1, b, Nat.le_refl _, hab, Nat.le_refl _, by rw [HM.out], rfl, fun t h1 h2 => by omega, fun h => by omega, HR.out, grownBy_refl _ _⟩
  case round =>
    obtain ⟨i, j, hai, hij, hjb, rfl, rfl, hlo, hhi, hr, hg⟩ := hrel
    have HI : Hid ((∀ t, a + 1 ≤ t → t < i → (f t).call < (f a).call) ∧ (j < b → (f a).call ≤ (f j).call) ∧ RowF G N f wr ∧ w.grownBy wr (some G)) := ⟨hlo, hhi, hr, hg⟩
    clear hlo hhi hr hg
    by_cases hlt : i < j
    · have hlt' : (i : Int) < j := by omega
      obtain ⟨h, hh⟩ : ∃ h : Nat, ((i : Int) + j) / 2 = h := ⟨(i + j) / 2, by omega⟩
      have h1 : i ≤ h := by omega
      have h2 : h < j := by omega
      obtain ⟨x, hx⟩ : ∃ x, f h = x := ⟨_, rfl⟩
      obtain ⟨y, hy⟩ : ∃ y, f a = y := ⟨_, rfl⟩
      obtain ⟨x0, x1, x2⟩ := HI.out.2.2.1.cellsG (show h < N by omega) hx
      obtain ⟨y0, y1, y2⟩ := HI.out.2.2.1.cellsG (show a < N by omega) hy
      have HX : Hid (f h = x ∧ f a = y) := ⟨hx, hy⟩
      clear hx hy
      have mx := mixed
      have jz : (h : Int) < (N : Int) := by omega
      have jz1 : (a : Int) < (N : Int) := by omega
      by_cases hc : cmpI x.call y.call < 0
      · go_wp2_with fail
        go_quiet_grown ((go_at_call 9; refine Calls.grown_of (cmp_grown x y _)))
        go_wp2_with fail
        clear x0 x1 x2 y0 y1 y2
        go_roundw
        case rel =>
          have hl := (cmpI_lt _ _).1 hc
          rw [← HX.out.1, ← HX.out.2] at hl
          refine ⟨h + 1, j, by omega, by omega, hjb, by go_num, rfl, fun t h3 h4 => ?_, HI.out.2.1, HI.out.2.2.1.grown (grownBy_grow _ _ _), grownBy_trans HI.out.2.2.2 (grown_row (grownBy_grow _ _ _) G)⟩
          have := HS.out.le (i := t) (j := h) h3 (by omega) (by omega)
          omega
        case measure => simp [intOf]; omega
      · go_wp2_with fail
        go_quiet_grown ((go_at_call 9; refine Calls.grown_of (cmp_grown x y _)))
        go_wp2_with fail
        clear x0 x1 x2 y0 y1 y2
        go_roundw
        case rel =>
          have hl : ¬ x.call < y.call := fun h => by have := (cmpI_lt _ _).2 h; omega
          rw [← HX.out.1, ← HX.out.2] at hl
          exact ⟨i, h, by omega, by omega, by omega, rfl, rfl, HI.out.1, fun _ => by omega, HI.out.2.2.1.grown (grownBy_grow _ _ _), grownBy_trans HI.out.2.2.2 (grown_row (grownBy_grow _ _ _) G)⟩
        case measure => simp [intOf]; omega
    · have e : j = i := by omega
      subst e
      obtain ⟨wo, rfl⟩ : ∃ wo : World, wo = wr := ⟨_, rfl⟩
      go_wp2_with fail
      go_loopw [13] (fun k' wr => ∃ (k : Nat), a ≤ k ∧ k + 1 ≤ j ∧ k' = .int .i64 k ∧ RowF G N (rot f a (a + 1) (k + 1)) wr ∧ wo.grownBy wr (some G)) (fun k _ => j - (intOf k).toNat)
      case atStart => 
        refine ⟨a, Nat.le_refl _, by omega, rfl, ?_, grownBy_refl _ _⟩
        rw [rot_right]; exact HI.out.2.2.1
      case round =>
        obtain ⟨k, hak, hkj, rfl, hr, hg⟩ := hrel
        have HK : Hid (RowF G N (rot f a (a + 1) (k + 1)) wr ∧ wo.grownBy wr (some G)) := ⟨hr, hg⟩
        by_cases hkl : k + 1 < j
        · have hkl' : (k : Int) < (j : Int) - 1 := by omega
          have jz : (k : Int) + 1 < (N : Int) := by omega
          have jz1 : (k : Int) < (N : Int) := by omega
          have p0 : (0 : Int) ≤ (k : Int) + 1 := by omega
          have e0 : ((k : Int) + 1).toNat = k + 1 := by omega
          obtain ⟨x0, x1, x2⟩ := hr.cells (show k < N by omega)
          obtain ⟨y0, y1, y2⟩ := hr.cells (show k + 1 < N by omega)
          obtain ⟨x, hx⟩ : ∃ x, rot f a (a + 1) (k + 1) k = x := ⟨_, rfl⟩
          obtain ⟨y, hy⟩ : ∃ y, rot f a (a + 1) (k + 1) (k + 1) = y := ⟨_, rfl⟩
          rw [hx] at x0 x1 x2
          rw [hy] at y0 y1 y2
          have f0 := hr.free
          have HX : Hid (rot f a (a + 1) (k + 1) k = x ∧ rot f a (a + 1) (k + 1) (k + 1) = y) := ⟨hx, hy⟩
          clear hr hg hx hy
          go_wp2_with fail
          go_region
          go_wp2
          go_roundw
          case rel =>
            have hsw := HK.out.1.swap k (k + 1) (by omega) (by omega)
            rw [HX.out.1, HX.out.2, rot_first f a k hak] at hsw
            exact ⟨k + 1, by omega, by omega, by go_num, hsw, grownBy_drew (grownBy_set (grownBy_set (grownBy_set (grownBy_set (grownBy_set (grownBy_set HK.out.2 _ _) _ _) _ _) _ _) _ _) _ _)⟩
          case measure => simp [intOf]; omega
        · have hkl' : ¬ (k : Int) < (j : Int) - 1 := by omega
          clear hr hg
          have e : k + 1 = j := by omega
          go_wp2_with fail
          (try simp only [Exit.inBlock, Exit.then]); refine bodyPost_ret (results_none rfl _ _ _) rfl ?_
          obtain ⟨q1, q2⟩ := merge_first (key := App.call) hai hjb HS.out HI.out.1 HI.out.2.1
          rw [e] at HK
          exact ⟨rfl, ⟨_, q1, q2, HK.out.1⟩, grownBy_trans HI.out.2.2.2 HK.out.2⟩
end Go.Proofs.Ybulkawey
