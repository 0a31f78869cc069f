import Derived.Test.YbulkaweySortSymC
namespace Go.Proofs.Ybulkawey
open Go.RowKit
set_option linter.unusedVariables false

/-- Every stretch of B is sorted. -/
def Chunks (g : Nat → App) (B n : Nat) : Prop := ∀ p, Sorted App.call g (p * B) (min (p * B + B) n)
/-- Stretches of 2 B are sorted below A, of B from A on. -/
def Half (g : Nat → App) (A B n : Nat) : Prop :=
  (∀ p, p * (2 * B) + 2 * B ≤ A → Sorted App.call g (p * (2 * B)) (p * (2 * B) + 2 * B)) ∧ (∀ p, A ≤ p * B → Sorted App.call g (p * B) (min (p * B + B) n))

theorem half_zero {g : Nat → App} {B n : Nat} (hB : 0 < B) (h : Chunks g B n) : Half g 0 B n := ⟨fun p hp => by omega, fun p _ => h p⟩
theorem half_runs {g : Nat → App} {q B n A : Nat} (hA : A = q * (2 * B)) (h : Half g A B n) : Sorted App.call g A (min (A + B) n) ∧ Sorted App.call g (A + B) (min (A + B + B) n) := by
  have e1 : (2 * q) * B = A := by rw [hA, Nat.mul_comm 2 q, Nat.mul_assoc]
  have e2 : (2 * q + 1) * B = A + B := by rw [Nat.add_mul, e1, Nat.one_mul]
  have t1 := h.2 (2 * q) (by omega)
  have t2 := h.2 (2 * q + 1) (by omega)
  rw [e1] at t1
  rw [e2] at t2
  exact ⟨t1, t2⟩
theorem half_step {g g' : Nat → App} {q B n A : Nat} (hB : 0 < B) (hA : A = q * (2 * B)) (h : Half g A B n) (k : Keeps App.call g g' A (A + 2 * B)) (s : Sorted App.call g' A (A + 2 * B)) : Half g' (A + 2 * B) B n := by
  refine ⟨fun p hp => ?_, fun p hp => (h.2 p (by omega)).congr fun i i1 i2 => k.out i (by omega)⟩
  have hpq : p ≤ q := by
    have : p * (2 * B) ≤ q * (2 * B) := by omega
    exact Nat.le_of_mul_le_mul_right this (by omega)
  rcases Nat.lt_or_ge p q with h1 | h1
  · have : (p + 1) * (2 * B) ≤ q * (2 * B) := Nat.mul_le_mul_right _ h1
    rw [Nat.add_mul, Nat.one_mul] at this
    exact (h.1 p (by omega)).congr fun i i1 i2 => k.out i (by omega)
  · obtain rfl : p = q := by omega
    rw [← hA]; exact s
theorem half_end {g g' : Nat → App} {q B n A : Nat} (hB : 0 < B) (hA : A = q * (2 * B)) (h : Half g A B n) (h1 : A ≤ n) (h2 : n < A + 2 * B) (k : Keeps App.call g g' A n) (s : Sorted App.call g' A n) : Chunks g' (2 * B) n := by
  intro p
  rcases Nat.lt_trichotomy p q with h3 | rfl | h3
  · have : (p + 1) * (2 * B) ≤ q * (2 * B) := Nat.mul_le_mul_right _ h3
    rw [Nat.add_mul, Nat.one_mul] at this
    have e : min (p * (2 * B) + 2 * B) n = p * (2 * B) + 2 * B := by omega
    rw [e]
    exact (h.1 p (by omega)).congr fun i i1 i2 => k.out i (by omega)
  · rw [← hA, show min (A + 2 * B) n = n by omega]; exact s
  · have : (q + 1) * (2 * B) ≤ p * (2 * B) := Nat.mul_le_mul_right _ h3
    rw [Nat.add_mul, Nat.one_mul] at this
    exact Sorted.tiny (by omega)
theorem chunk_first {g g' : Nat → App} {q n : Nat} (h : ∀ p, p < q → Sorted App.call g (p * 20) (p * 20 + 20)) (h1 : q * 20 ≤ n) (h2 : n < q * 20 + 20) (k : Keeps App.call g g' (q * 20) n) (s : Sorted App.call g' (q * 20) n) : Chunks g' 20 n := by
  intro p
  rcases Nat.lt_trichotomy p q with h3 | rfl | h3
  · rw [show min (p * 20 + 20) n = p * 20 + 20 by omega]
    exact (h p h3).congr fun i i1 i2 => k.out i (by omega)
  · rw [show min (p * 20 + 20) n = n by omega]; exact s
  · exact Sorted.tiny (by omega)

set_option maxRecDepth 100000 in
set_option maxHeartbeats 8000000 in
/-- slices.stableCmpFunc. -/
theorem stable_any (G N : Nat) (f : Nat → App) (w : World) (hN : N ≤ 1000) (hrow : RowF G N f w) :
    Calls Yba.prog 18 #[.slice (some ⟨G, 0, none⟩) N N, .int .i64 N, cfv] w fun e w' =>
      e = .returned (.tuple #[]) ∧ (∃ g, Keeps App.call f g 0 N ∧ Sorted App.call g 0 N ∧ RowF G N g w') ∧ w.grownBy w' (some G) := by
  have HR : Hid (RowF G N f w) := hrow
  clear hrow
  go_enter Yba.func18, Yba.ntmps18
  go_wp2_with fail
  go_loopw [7, 8] (fun a' b' wr => ∃ (q A : Nat) (g : Nat → App), A = q * 20 ∧ A ≤ N ∧ a' = .int .i64 A ∧ b' = .int .i64 ((A + 20 : Nat) : Int) ∧ (∀ p, p < q → Sorted App.call g (p * 20) (p * 20 + 20)) ∧ Keeps App.call f g 0 N ∧ RowF G N g wr ∧ w.grownBy wr (some G)) (fun a _ _ => N - (intOf a).toNat)
  case atStart => exact ⟨0, 0, f, rfl, by omega, rfl, rfl, fun p h => by omega, Keeps.refl _ _ _, HR.out, grownBy_refl _ _⟩
  case round =>
    obtain ⟨q, A, g, hA, hAN, rfl, rfl, hs, hk, hr, hg⟩ := hrel
    have HI : Hid (A = q * 20 ∧ (∀ p, p < q → Sorted App.call g (p * 20) (p * 20 + 20)) ∧ Keeps App.call f g 0 N ∧ RowF G N g wr ∧ w.grownBy wr (some G)) := ⟨hA, hs, hk, hr, hg⟩
    clear hA hs hk hr hg
    by_cases hlt : A + 20 ≤ N
    · have hlt' : (A : Int) + 20 ≤ N := by omega
      go_wp2_with fail
      refine (insertion_any G N g _ _ A (A + 20) rfl (by omega) _ hN (by omega) hlt HI.out.2.2.2.1).mono ?_
      rintro e1 w2 ⟨rfl, ⟨g1, k1, s1, r1⟩, hg1⟩
      have H2 : Hid (Keeps App.call g g1 A (A + 20) ∧ Sorted App.call g1 A (A + 20) ∧ RowF G N g1 w2 ∧ wr.grownBy w2 (some G)) := ⟨k1, s1, r1, hg1⟩
      clear k1 s1 r1 hg1
      go_wp2_with fail
      go_roundw
      case rel =>
        obtain ⟨hA, hs, hk, hr, hg⟩ := HI.out
        obtain ⟨k1, s1, r1, hg1⟩ := H2.out
        refine ⟨q + 1, A + 20, g1, by omega, by omega, i64_congr (by omega), i64_congr (by omega), fun p hp => ?_, hk.trans (k1.wide (by omega) (by omega) hlt), r1, grownBy_trans hg hg1⟩
        rcases Nat.lt_or_ge p q with h1 | h1
        · exact (hs p h1).congr fun i i1 i2 => k1.out i (by omega)
        · obtain rfl : p = q := by omega
          rw [← hA]; exact s1
      case measure => simp [intOf]; omega
    · have hlt' : ¬ (A : Int) + 20 ≤ N := by omega
      go_wp2_with fail
      refine (insertion_any G N g _ _ A N rfl rfl _ hN (by omega) (Nat.le_refl _) HI.out.2.2.2.1).mono ?_
      rintro e1 w2 ⟨rfl, ⟨g1, k1, s1, r1⟩, hg1⟩
      have H2 : Hid (Chunks g1 20 N ∧ Keeps App.call f g1 0 N ∧ RowF G N g1 w2 ∧ w.grownBy w2 (some G)) := by
        obtain ⟨hA, hs, hk, hr, hg⟩ := HI.out
        subst hA
        exact ⟨chunk_first hs hAN (by omega) k1 s1, hk.trans (k1.wide (by omega) hAN (Nat.le_refl _)), r1, grownBy_trans hg hg1⟩
      clear k1 s1 r1 hg1 HI
      go_wp2_with fail
      go_loopw [6] (fun b' wr => ∃ (B : Nat) (g : Nat → App), 20 ≤ B ∧ B ≤ 2000 ∧ b' = .int .i64 B ∧ Chunks g B N ∧ Keeps App.call f g 0 N ∧ RowF G N g wr ∧ w.grownBy wr (some G)) (fun b _ => N - (intOf b).toNat)
      case atStart => exact ⟨20, g1, by omega, by omega, rfl, H2.out.1, H2.out.2.1, H2.out.2.2.1, H2.out.2.2.2⟩
      case round =>
        obtain ⟨B, g, hB0, hB1, rfl, hch, hk, hr, hg⟩ := hrel
        have HJ : Hid (Chunks g B N ∧ Keeps App.call f g 0 N ∧ RowF G N g wr ∧ w.grownBy wr (some G)) := ⟨hch, hk, hr, hg⟩
        clear hch hk hr hg H2
        by_cases hBN : B < N
        · have hBN' : (B : Int) < N := by omega
          obtain ⟨wo, rfl⟩ : ∃ wo : World, wo = wr := ⟨_, rfl⟩
          go_wp2_with fail
          go_loopw [7, 8] (fun a' b' wr => ∃ (q A : Nat) (g' : Nat → App), A = q * (2 * B) ∧ A ≤ N ∧ a' = .int .i64 A ∧ b' = .int .i64 ((A : Int) + 2 * B) ∧ Half g' A B N ∧ Keeps App.call g g' 0 N ∧ RowF G N g' wr ∧ wo.grownBy wr (some G)) (fun a _ _ => N - (intOf a).toNat)
          case atStart => exact ⟨0, 0, g, by omega, by omega, rfl, i64_congr (by omega), half_zero (by omega) HJ.out.1, Keeps.refl _ _ _, HJ.out.2.2.1, grownBy_refl _ _⟩
          case round =>
            obtain ⟨q, A, g', hA, hAN, rfl, rfl, hh, hk, hr, hg⟩ := hrel
            have HI : Hid (A = q * (2 * B) ∧ Half g' A B N ∧ Keeps App.call g g' 0 N ∧ RowF G N g' wr ∧ wo.grownBy wr (some G)) := ⟨hA, hh, hk, hr, hg⟩
            clear hA hh hk hr hg
            by_cases hlt : A + 2 * B ≤ N
            · have hlt' : (A : Int) + 2 * B ≤ N := by omega
              go_wp2_with fail
              refine (sym_ok (2 * B) G N g' _ _ _ A (A + B) (A + 2 * B) rfl (by omega) (by omega) _ hN (by omega) (by omega) hlt (by omega) HI.out.2.2.2.1 ?_ ?_).mono ?_
              · have := (half_runs HI.out.1 HI.out.2.1).1
                rwa [show min (A + B) N = A + B by omega] at this
              · have := (half_runs HI.out.1 HI.out.2.1).2
                rwa [show min (A + B + B) N = A + 2 * B by omega] at this
              rintro e1 w2 ⟨rfl, ⟨g1, k1, s1, r1⟩, hg1⟩
              have H2 : Hid (Keeps App.call g' g1 A (A + 2 * B) ∧ Sorted App.call g1 A (A + 2 * B) ∧ RowF G N g1 w2 ∧ wr.grownBy w2 (some G)) := ⟨k1, s1, r1, hg1⟩
              clear k1 s1 r1 hg1
              go_wp2_with fail
              go_roundw
              case rel =>
                obtain ⟨hA, hh, hk, hr, hg⟩ := HI.out
                obtain ⟨k1, s1, r1, hg1⟩ := H2.out
                have e1 : A + 2 * B = (q + 1) * (2 * B) := by rw [Nat.add_mul, Nat.one_mul, hA]
                exact ⟨q + 1, A + 2 * B, g1, e1, hlt, i64_congr (by omega), i64_congr (by omega), half_step (by omega) hA hh k1 s1, hk.trans (k1.wide (by omega) (by omega) hlt), r1, grownBy_trans hg hg1⟩
              case measure => simp [intOf]; omega
            · have hlt' : ¬ (A : Int) + 2 * B ≤ N := by omega
              by_cases hm : A + B < N
              · have hm' : (A : Int) + B < N := by omega
                go_wp2_with fail
                refine (sym_ok N G N g' _ _ _ A (A + B) N rfl (by omega) rfl _ hN (by omega) (by omega) (Nat.le_refl _) (by omega) HI.out.2.2.2.1 ?_ ?_).mono ?_
                · have := (half_runs HI.out.1 HI.out.2.1).1
                  rwa [show min (A + B) N = A + B by omega] at this
                · have := (half_runs HI.out.1 HI.out.2.1).2
                  rwa [show min (A + B + B) N = N by omega] at this
                rintro e1 w2 ⟨rfl, ⟨g1, k1, s1, r1⟩, hg1⟩
                have H2 : Hid (Keeps App.call g' g1 A N ∧ Sorted App.call g1 A N ∧ RowF G N g1 w2 ∧ wr.grownBy w2 (some G)) := ⟨k1, s1, r1, hg1⟩
                clear k1 s1 r1 hg1
                go_wp2_with fail
                go_roundw
                case rel =>
                  obtain ⟨hA, hh, hk, hr, hg⟩ := HI.out
                  obtain ⟨k1, s1, r1, hg1⟩ := H2.out
                  exact ⟨2 * B, g1, by omega, by omega, i64_congr (by omega), half_end (by omega) hA hh hAN (by omega) k1 s1, HJ.out.2.1.trans (hk.trans (k1.wide (by omega) hAN (Nat.le_refl _))), r1, grownBy_trans HJ.out.2.2.2 (grownBy_trans hg hg1)⟩
                case measure => simp [intOf]; omega
              · have hm' : ¬ (A : Int) + B < N := by omega
                go_wp2_with fail
                go_roundw
                case rel =>
                  obtain ⟨hA, hh, hk, hr, hg⟩ := HI.out
                  have s1 := (half_runs hA hh).1
                  rw [show min (A + B) N = N by omega] at s1
                  exact ⟨2 * B, g', by omega, by omega, i64_congr (by omega), half_end (by omega) hA hh hAN (by omega) (Keeps.refl _ _ _) s1, HJ.out.2.1.trans hk, hr, grownBy_trans HJ.out.2.2.2 hg⟩
                case measure => simp [intOf]; omega
        · have hBN' : ¬ (B : Int) < N := by omega
          go_wp2_with fail
          go_end0
          have hs := HJ.out.1 0
          rw [Nat.zero_mul, show min (0 + B) N = N by omega] at hs
          exact ⟨rfl, ⟨g, HJ.out.2.1, hs, HJ.out.2.2.1⟩, HJ.out.2.2.2⟩

set_option maxHeartbeats 1000000 in
/-- slices.SortStableFunc. -/
theorem sortStable_any (G N : Nat) (f : Nat → App) (w : World) (hN : N ≤ 1000) (hrow : RowF G N f w) :
    Calls Yba.prog 8 #[.slice (some ⟨G, 0, none⟩) N N, cfv] w fun e w' =>
      e = .returned (.tuple #[]) ∧ (∃ g, Keeps App.call f g 0 N ∧ Sorted App.call g 0 N ∧ RowF G N g w') ∧ w.grownBy w' (some G) := by
  have HR : Hid (RowF G N f w) := hrow
  clear hrow
  go_enter Yba.func8, Yba.ntmps8
  go_wp2_with fail
  refine (stable_any G N f _ hN HR.out).mono ?_
  rintro e1 w2 ⟨rfl, h1, h2⟩
  have H : Hid ((∃ g, Keeps App.call f g 0 N ∧ Sorted App.call g 0 N ∧ RowF G N g w2) ∧ w.grownBy w2 (some G)) := ⟨h1, h2⟩
  clear h1 h2
  go_wp2_with fail
  go_end0
  exact ⟨rfl, H.out⟩
end Go.Proofs.Ybulkawey
