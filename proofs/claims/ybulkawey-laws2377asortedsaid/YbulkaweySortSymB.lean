import Derived.Test.YbulkaweySortSymA
namespace Go.Proofs.Ybulkawey
open Go.RowKit
set_option linter.unusedVariables false

set_option maxRecDepth 100000 in
set_option maxHeartbeats 4000000 in
/-- symMerge where the right run is one element. -/
theorem sym_last (G N : Nat) (f : Nat → App) (ai mi bi : Int) (a m : Nat) (ha : ai = a) (hm : mi = m) (hb : bi = ((m + 1 : Nat) : Int)) (w : World) (hN : N ≤ 1000) (ham : a ≤ m) (hne : m ≠ a + 1) (hbN : m + 1 ≤ N) (hrow : RowF G N f w)
    (hsL : Sorted App.call f a m) :
    Calls Yba.prog 23 #[.slice (some ⟨G, 0, none⟩) N N, .int .i64 ai, .int .i64 mi, .int .i64 bi, cfv] w fun e w' =>
      e = .returned (.tuple #[]) ∧ (∃ g, Keeps App.call f g a (m + 1) ∧ Sorted App.call g a (m + 1) ∧ RowF G N g w') ∧ w.grownBy w' (some G) := by
  subst ha hm
  have HR : Hid (RowF G N f w) := hrow
  have HS : Hid (Sorted App.call f a m) := hsL
  clear hrow hsL
  have q1 : ((bi - (m : Int)) == 1) = true := by simp; omega
  have q0 : (((m : Int) - (a : Int)) == 1) = false := by simp; omega
  have b0 : 0 ≤ bi := by omega
  have b1 : bi ≤ 1001 := by omega
  have HB : Hid (bi = ((m + 1 : Nat) : Int)) := hb
  clear hb
  go_enter Yba.func23, Yba.ntmps23
  go_wp2_with fail
  go_loopw [14, 15] (fun i' j' wr => ∃ (i j : Nat), a ≤ i ∧ i ≤ j ∧ j ≤ m ∧ i' = .int .i64 i ∧ j' = .int .i64 j ∧ (∀ t, j ≤ t → t < m → (f m).call < (f t).call) ∧ (a < i → (f (i - 1)).call ≤ (f m).call) ∧ RowF G N f wr ∧ w.grownBy wr (some G)) (fun i j _ => (intOf j).toNat - (intOf i).toNat)
  case atStart => exact ⟨a, m, Nat.le_refl _, ham, Nat.le_refl _, rfl, rfl, fun t h1 h2 => by omega, fun h => by omega, HR.out, grownBy_refl _ _⟩
  case round =>
    obtain ⟨i, j, hai, hij, hjb, rfl, rfl, hlo, hhi, hr, hg⟩ := hrel
    have HI : Hid ((∀ t, j ≤ t → t < m → (f m).call < (f t).call) ∧ (a < i → (f (i - 1)).call ≤ (f m).call) ∧ RowF G N f wr ∧ w.grownBy wr (some G)) := ⟨hlo, hhi, hr, hg⟩
    clear hlo hhi hr hg
    by_cases hlt : i < j
    · have hlt' : (i : Int) < j := by omega
      obtain ⟨h, hh⟩ : ∃ h : Nat, ((i : Int) + j) / 2 = h := ⟨(i + j) / 2, by omega⟩
      have h1 : i ≤ h := by omega
      have h2 : h < j := by omega
      obtain ⟨x, hx⟩ : ∃ x, f m = x := ⟨_, rfl⟩
      obtain ⟨y, hy⟩ : ∃ y, f h = y := ⟨_, rfl⟩
      obtain ⟨x0, x1, x2⟩ := HI.out.2.2.1.cellsG (show m < N by omega) hx
      obtain ⟨y0, y1, y2⟩ := HI.out.2.2.1.cellsG (show h < N by omega) hy
      have HX : Hid (f m = x ∧ f h = y) := ⟨hx, hy⟩
      clear hx hy
      have mx := mixed
      have jz : (h : Int) < (N : Int) := by omega
      have jz1 : (m : Int) < (N : Int) := by omega
      by_cases hc : cmpI x.call y.call < 0
      · go_wp2_with fail
        go_quiet_grown ((go_at_call 9; refine Calls.grown_of (cmp_grown x y _)))
        go_wp2_with fail
        clear x0 x1 x2 y0 y1 y2
        go_roundw
        case rel =>
          have hl := (cmpI_lt _ _).1 hc
          rw [← HX.out.1, ← HX.out.2] at hl
          refine ⟨i, h, by omega, by omega, by omega, rfl, rfl, fun t h3 h4 => ?_, HI.out.2.1, HI.out.2.2.1.grown (grownBy_grow _ _ _), grownBy_trans HI.out.2.2.2 (grown_row (grownBy_grow _ _ _) G)⟩
          have := HS.out.le (i := h) (j := t) (by omega) h3 h4
          omega
        case measure => simp [intOf]; omega
      · have hd : decide (cmpI x.call y.call < 0) = false := by simpa using hc
        go_wp2_with fail
        go_quiet_grown ((go_at_call 9; refine Calls.grown_of (cmp_grown x y _)))
        go_wp2_with fail
        clear x0 x1 x2 y0 y1 y2
        go_roundw
        case rel =>
          have hl : ¬ x.call < y.call := fun h => by have := (cmpI_lt _ _).2 h; omega
          rw [← HX.out.1, ← HX.out.2] at hl
          exact ⟨h + 1, j, by omega, by omega, by omega, by go_num, rfl, HI.out.1, fun _ => by simp only [Nat.add_sub_cancel]; omega, HI.out.2.2.1.grown (grownBy_grow _ _ _), grownBy_trans HI.out.2.2.2 (grown_row (grownBy_grow _ _ _) G)⟩
        case measure => simp [intOf]; omega
    · have e : j = i := by omega
      subst e
      obtain ⟨wo, rfl⟩ : ∃ wo : World, wo = wr := ⟨_, rfl⟩
      go_wp2_with fail
      go_loopw [17] (fun k' wr => ∃ (k : Nat), j ≤ k ∧ k ≤ m ∧ k' = .int .i64 k ∧ RowF G N (rot f k m (m + 1)) wr ∧ wo.grownBy wr (some G)) (fun k _ => (intOf k).toNat)
      case atStart => 
        refine ⟨m, by omega, by omega, rfl, ?_, grownBy_refl _ _⟩
        rw [rot_left]; exact HI.out.2.2.1
      case round =>
        obtain ⟨k, hjk, hkm, rfl, hr, hg⟩ := hrel
        by_cases hkl : j < k
        · obtain ⟨k, rfl⟩ : ∃ k0, k = k0 + 1 := ⟨k - 1, by omega⟩
          have HK : Hid (RowF G N (rot f (k + 1) m (m + 1)) wr ∧ wo.grownBy wr (some G)) := ⟨hr, hg⟩
          have hkl' : (j : Int) < (k : Int) + 1 := by omega
          have jz : (k : Int) + 1 < (N : Int) := by omega
          have jz1 : (k : Int) < (N : Int) := by omega
          have p0 : (0 : Int) ≤ (k : Int) + 1 := by omega
          have e0 : ((k : Int) + 1).toNat = k + 1 := by omega
          have hwp : IntKind.i64.wrap (k : Int) = (k : Int) := by rw [IntKind.wrap_i64]; omega
          obtain ⟨x0, x1, x2⟩ := hr.cells (show k + 1 < N by omega)
          obtain ⟨y0, y1, y2⟩ := hr.cells (show k < N by omega)
          obtain ⟨x, hx⟩ : ∃ x, rot f (k + 1) m (m + 1) (k + 1) = x := ⟨_, rfl⟩
          obtain ⟨y, hy⟩ : ∃ y, rot f (k + 1) m (m + 1) k = y := ⟨_, rfl⟩
          rw [hx] at x0 x1 x2
          rw [hy] at y0 y1 y2
          have f0 := hr.free
          have HX : Hid (rot f (k + 1) m (m + 1) (k + 1) = x ∧ rot f (k + 1) m (m + 1) k = y) := ⟨hx, hy⟩
          clear hr hg hx hy
          go_wp2_with fail
          go_region
          go_wp2
          go_roundw
          case rel =>
            have hsw := HK.out.1.swap (k + 1) k (by omega) (by omega)
            rw [HX.out.1, HX.out.2, rot_last f k m (by omega)] at hsw
            exact ⟨k, by omega, by omega, rfl, hsw, grownBy_drew (grownBy_set (grownBy_set (grownBy_set (grownBy_set (grownBy_set (grownBy_set HK.out.2 _ _) _ _) _ _) _ _) _ _) _ _)⟩
          case measure => simp [intOf]
        · have e : k = j := by omega
          subst e
          have HK : Hid (RowF G N (rot f k m (m + 1)) wr ∧ wo.grownBy wr (some G)) := ⟨hr, hg⟩
          clear hr hg
          go_wp2_with fail
          (try simp only [Exit.inBlock, Exit.then]); refine bodyPost_ret (results_none rfl _ _ _) rfl ?_
          obtain ⟨q1, q2⟩ := merge_last (key := App.call) hai hjb HS.out HI.out.1 HI.out.2.1
          exact ⟨rfl, ⟨_, q1, q2, HK.out.1⟩, grownBy_trans HI.out.2.2.2 HK.out.2⟩
end Go.Proofs.Ybulkawey
