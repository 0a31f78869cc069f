import Derived.Test.YbulkaweySortSymB
namespace Go.Proofs.Ybulkawey
open Go.RowKit
set_option linter.unusedVariables false

/-- symMerge merges every stretch of at most k. -/
def SymOk (k : Nat) : Prop := ∀ (G N : Nat) (f : Nat → App) (ai mi bi : Int) (a m b : Nat), ai = a → mi = m → bi = b → ∀ (w : World), N ≤ 1000 → a < m → m < b → b ≤ N → b - a ≤ k → RowF G N f w →
    Sorted App.call f a m → Sorted App.call f m b →
    Calls Yba.prog 23 #[.slice (some ⟨G, 0, none⟩) N N, .int .i64 ai, .int .i64 mi, .int .i64 bi, cfv] w fun e w' =>
      e = .returned (.tuple #[]) ∧ (∃ g, Keeps App.call f g a b ∧ Sorted App.call g a b ∧ RowF G N g w') ∧ w.grownBy w' (some G)

theorem sym_end {α : Type} {key : α → Int} {f g1 g2 : Nat → α} {a s m e b d : Nat} (hd : s + (e - m) = d) (h1 : a ≤ s) (h2 : s ≤ m) (h3 : m ≤ e) (h4 : e ≤ b) (hL : Sorted key f a m) (hR : Sorted key f m b)
    (hXY : ∀ i j, s ≤ i → i < m → m ≤ j → j < e → key (f j) < key (f i)) (hAR : a < s → e < b → key (f (s - 1)) ≤ key (f e))
    (k1 : Keeps key (rot f s m e) g1 a d) (s1 : Sorted key g1 a d) (k2 : Keeps key g1 g2 d b) (s2 : Sorted key g2 d b) :
    Keeps key f g2 a b ∧ Sorted key g2 a b := by
  subst hd
  exact sym_step h1 h2 h3 h4 hL hR hXY hAR k1 s1 k2 s2

/-- What the search's end says. -/
theorem sym_found {f : Nat → App} {a m b d s0 r0 j e : Nat} (hd : (d < m ∧ s0 = d + m - b ∧ r0 = d) ∨ (m ≤ d ∧ s0 = a ∧ r0 = m)) (he : d + m = e + j) (h0 : s0 ≤ j) (h1 : j ≤ r0) (hm : m < b) (h4 : e ≤ b) (b1 : a ≤ s0) (hjm : j ≤ m) (hme : m ≤ e)
    (hL : Sorted App.call f a m) (hR : Sorted App.call f m b)
    (q1 : s0 < j → (f (j - 1)).call ≤ (f (d + m - j)).call) (q2 : j < r0 → (f (d + m - 1 - j)).call < (f j).call) :
    (∀ x y, j ≤ x → x < m → m ≤ y → y < e → (f y).call < (f x).call) ∧ (a < j → e < b → (f (j - 1)).call ≤ (f e).call) := by
  refine ⟨fun x y x1 x2 y1 y2 => ?_, fun h2 h3 => ?_⟩
  · have q := q2 (by omega)
    have e1 : d + m - 1 - j = e - 1 := by omega
    rw [e1] at q
    have t1 := hL.le (i := j) (j := x) (by omega) x1 x2
    have t2 := hR.le (i := y) (j := e - 1) y1 (by omega) (by omega)
    omega
  · have q := q1 (by omega)
    rwa [show d + m - j = e by omega] at q

set_option maxRecDepth 100000 in
set_option maxHeartbeats 8000000 in
/-- symMerge where both runs hold two elements or more. -/
theorem sym_gen (k : Nat) (IH : SymOk k) (G N : Nat) (f : Nat → App) (ai mi bi : Int) (a m b : Nat) (ha : ai = a) (hm : mi = m) (hb : bi = b) (w : World) (hN : N ≤ 1000) (ham : a + 2 ≤ m) (hmb : m + 2 ≤ b) (hbN : b ≤ N) (hk : b - a ≤ k + 1) (hrow : RowF G N f w)
    (hsL : Sorted App.call f a m) (hsR : Sorted App.call f m b) :
    Calls Yba.prog 23 #[.slice (some ⟨G, 0, none⟩) N N, .int .i64 ai, .int .i64 mi, .int .i64 bi, cfv] w fun e w' =>
      e = .returned (.tuple #[]) ∧ (∃ g, Keeps App.call f g a b ∧ Sorted App.call g a b ∧ RowF G N g w') ∧ w.grownBy w' (some G) := by
  subst ha hm hb
  have HIH : Hid (SymOk k) := IH
  have HR : Hid (RowF G N f w) := hrow
  have HL : Hid (Sorted App.call f a m) := hsL
  have HS : Hid (Sorted App.call f m b) := hsR
  clear hrow hsR hsL IH
  have q1 : (((b : Int) - (m : Int)) == 1) = false := by simp; omega
  have q0 : (((m : Int) - (a : Int)) == 1) = false := by simp; omega
  obtain ⟨d, hh⟩ : ∃ h : Nat, ((a : Int) + b) / 2 = h := ⟨(a + b) / 2, by omega⟩
  by_cases hgt : d < m
  all_goals
    obtain ⟨s0, r0, hs⟩ : ∃ s0 r0 : Nat, (d < m ∧ s0 = d + m - b ∧ r0 = d) ∨ (m ≤ d ∧ s0 = a ∧ r0 = m) := by
      first | exact ⟨d + m - b, d, .inl ⟨hgt, rfl, rfl⟩⟩ | exact ⟨a, m, .inr ⟨by omega, rfl, rfl⟩⟩
    have HD : Hid (((a : Int) + b) / 2 = d ∧ ((d < m ∧ s0 = d + m - b ∧ r0 = d) ∨ (m ≤ d ∧ s0 = a ∧ r0 = m))) := ⟨hh, hs⟩
    have b1 : a ≤ s0 := by omega
    have b2 : s0 ≤ r0 := by omega
    have b3 : r0 ≤ m := by omega
    have b4 : r0 ≤ d := by omega
    have b5 : d + m ≤ s0 + b := by omega
    have b6 : a < d := by omega
    have b7 : d < b := by omega
    clear hs
    go_enter Yba.func23, Yba.ntmps23
    first | (have hx : (d : Int) < (m : Int) := by omega) | (have hx : ¬ (d : Int) < (m : Int) := by omega)
    go_wp2_with fail
    go_loopw [20, 21] (fun s' r' wr => ∃ (s r : Nat), s0 ≤ s ∧ s ≤ r ∧ r ≤ r0 ∧ s' = .int .i64 s ∧ r' = .int .i64 r ∧ (s0 < s → (f (s - 1)).call ≤ (f (d + m - s)).call) ∧ (r < r0 → (f (d + m - 1 - r)).call < (f r).call) ∧ RowF G N f wr ∧ w.grownBy wr (some G)) (fun i j _ => (intOf j).toNat - (intOf i).toNat)
    case atStart =>
      have hd2 := HD.out.2
      exact ⟨s0, r0, Nat.le_refl _, b2, Nat.le_refl _, i64_congr (by omega), i64_congr (by omega), fun h => by omega, fun h => by omega, HR.out, grownBy_refl _ _⟩
    case round =>
      obtain ⟨i, j, hai, hij, hjb, rfl, rfl, hlo, hhi, hr, hg⟩ := hrel
      have HI : Hid ((s0 < i → (f (i - 1)).call ≤ (f (d + m - i)).call) ∧ (j < r0 → (f (d + m - 1 - j)).call < (f j).call) ∧ RowF G N f wr ∧ w.grownBy wr (some G)) := ⟨hlo, hhi, hr, hg⟩
      clear hlo hhi hr hg
      by_cases hlt : i < j
      · have hlt' : (i : Int) < j := by omega
        obtain ⟨h, h0⟩ : ∃ h : Nat, ((i : Int) + j) / 2 = h := ⟨(i + j) / 2, by omega⟩
        have h1 : i ≤ h := by omega
        have h2 : h < j := by omega
        obtain ⟨q, hq⟩ : ∃ q : Nat, (d : Int) + m - 1 - h = q := ⟨d + m - 1 - h, by omega⟩
        have hq' : q = d + m - 1 - h := by omega
        have hqN : q < N := by omega
        obtain ⟨x, hx1⟩ : ∃ x, f q = x := ⟨_, rfl⟩
        obtain ⟨y, hy1⟩ : ∃ y, f h = y := ⟨_, rfl⟩
        obtain ⟨x0, x1, x2⟩ := HI.out.2.2.1.cellsG hqN hx1
        obtain ⟨y0, y1, y2⟩ := HI.out.2.2.1.cellsG (show h < N by omega) hy1
        have HX : Hid (f q = x ∧ f h = y ∧ q = d + m - 1 - h) := ⟨hx1, hy1, hq'⟩
        clear hx1 hy1 hq'
        have mx := mixed
        have hwp : IntKind.i64.wrap (q : Int) = (q : Int) := by rw [IntKind.wrap_i64]; omega
        have hwq : IntKind.i64.wrap ((d : Int) + m - 1 - h) = (q : Int) := by rw [IntKind.wrap_i64]; omega
        have jz : (h : Int) < (N : Int) := by omega
        have jz1 : (q : Int) < (N : Int) := by omega
        by_cases hc : cmpI x.call y.call < 0
        · go_wp2_with fail
          go_quiet_grown ((go_at_call 9; refine Calls.grown_of (cmp_grown x y _)))
          go_wp2_with fail
          clear x0 x1 x2 y0 y1 y2
          go_roundw
          case rel =>
            have hl := (cmpI_lt _ _).1 hc
            obtain ⟨e1, e2, e3⟩ := HX.out
            rw [← e1, ← e2, e3] at hl
            exact ⟨i, h, by omega, by omega, by omega, rfl, rfl, HI.out.1, fun _ => hl, HI.out.2.2.1.grown (grownBy_grow _ _ _), grownBy_trans HI.out.2.2.2 (grown_row (grownBy_grow _ _ _) G)⟩
          case measure => simp [intOf]; omega
        · have hd : decide (cmpI x.call y.call < 0) = false := by simpa using hc
          go_wp2_with fail
          go_quiet_grown ((go_at_call 9; refine Calls.grown_of (cmp_grown x y _)))
          go_wp2_with fail
          clear x0 x1 x2 y0 y1 y2
          go_roundw
          case rel =>
            have hl : ¬ x.call < y.call := fun h => by have := (cmpI_lt _ _).2 h; omega
            obtain ⟨e1, e2, e3⟩ := HX.out
            rw [← e1, ← e2, e3] at hl
            refine ⟨h + 1, j, by omega, by omega, by omega, by go_num, rfl, fun _ => ?_, HI.out.2.1, HI.out.2.2.1.grown (grownBy_grow _ _ _), grownBy_trans HI.out.2.2.2 (grown_row (grownBy_grow _ _ _) G)⟩
            simp only [Nat.add_sub_cancel]
            rw [show d + m - (h + 1) = d + m - 1 - h by omega]
            omega
          case measure => simp [intOf]; omega
      · have e : j = i := by omega
        subst e
        obtain ⟨e, he⟩ : ∃ e : Nat, (d : Int) + m - j = e := ⟨d + m - j, by omega⟩
        have he' : d + m = e + j := by omega
        have hjm : j ≤ m := by omega
        have hme : m ≤ e := by omega
        have heb : e ≤ b := by omega
        have hed : j + (e - m) = d := by omega
        have HF : Hid ((∀ x y, j ≤ x → x < m → m ≤ y → y < e → (f y).call < (f x).call) ∧ (a < j → e < b → (f (j - 1)).call ≤ (f e).call)) :=
          sym_found HD.out.2 he' hai hjb (by omega) heb b1 hjm hme HL.out HS.out HI.out.1 HI.out.2.1
        have HE : Hid (d + m = e + j ∧ j + (e - m) = d) := ⟨he', hed⟩
        clear he' hed
        rcases Nat.lt_or_ge j m with p1 | p1 <;> rcases (Nat.lt_or_ge m e) with p2 | p2
        · have p1' : (j : Int) < m := by omega
          have p2' : (m : Int) < e := by omega
          have p3 : (j : Int) < d := by have := HE.out; omega
          have p4 : (d : Int) < e := by have := HE.out; omega
          have HS1 : Hid (Sorted App.call (rot f j m e) j d ∧ Sorted App.call (rot f j m e) d e ∧ Sorted App.call (rot f j m e) a j ∧ Sorted App.call (rot f j m e) e b) := by
            have t1 := rot_sorted_mid (s := j) (HS.out.sub (Nat.le_refl m) heb)
            have t2 := rot_sorted_x (s := j) (m := m) (e := e) hjm hme (HL.out.sub (by omega) (Nat.le_refl _))
            rw [HE.out.2] at t1 t2
            exact ⟨t1, t2, rot_sorted_left (HL.out.sub (Nat.le_refl _) hjm), rot_sorted_right hjm hme (HS.out.sub hme (Nat.le_refl _))⟩
          rcases Nat.lt_or_ge a j with p5 | p5 <;> rcases (Nat.lt_or_ge e b) with p6 | p6
          · have p5' : (a : Int) < j := by omega
            have p6' : (e : Int) < b := by omega
            go_wp2_with fail
            refine (rotate_any G N f cfv _ _ _ j m e rfl rfl rfl _ hN p1 p2 (by omega) HI.out.2.2.1).mono ?_
            rintro e1 w1 ⟨rfl, hr1, hg1⟩
            have H1 : Hid (RowF G N (rot f j m e) w1 ∧ wr.grownBy w1 (some G)) := ⟨hr1, hg1⟩
            clear hr1 hg1
            go_wp2_with fail
            refine (HIH.out G N _ _ _ _ a j d rfl rfl rfl _ hN p5 (by omega) (by omega) (by omega) H1.out.1 HS1.out.2.2.1 HS1.out.1).mono ?_
            rintro e1 w2 ⟨rfl, ⟨g1, k1, s1, r1⟩, hg1⟩
            have H2 : Hid (Keeps App.call (rot f j m e) g1 a d ∧ Sorted App.call g1 a d ∧ RowF G N g1 w2 ∧ w1.grownBy w2 (some G)) := ⟨k1, s1, r1, hg1⟩
            clear k1 s1 r1 hg1
            go_wp2_with fail
            refine (HIH.out G N _ _ _ _ d e b rfl rfl rfl _ hN (by omega) p6 (by omega) (by omega) H2.out.2.2.1 (HS1.out.2.1.congr fun i h1 h2 => H2.out.1.out i (by omega)) (HS1.out.2.2.2.congr fun i h1 h2 => H2.out.1.out i (by omega))).mono ?_
            rintro e1 w3 ⟨rfl, ⟨g2, k2, s2, r2⟩, hg2⟩
            have H3 : Hid (Keeps App.call g1 g2 d b ∧ Sorted App.call g2 d b ∧ RowF G N g2 w3 ∧ w2.grownBy w3 (some G)) := ⟨k2, s2, r2, hg2⟩
            clear k2 s2 r2 hg2
            go_wp2_with fail
            go_end0
            obtain ⟨z1, z2⟩ := sym_end HE.out.2 (by omega) hjm hme heb HL.out HS.out HF.out.1 HF.out.2 H2.out.1 H2.out.2.1 H3.out.1 H3.out.2.1
            exact ⟨rfl, ⟨_, z1, z2, H3.out.2.2.1⟩, grownBy_trans HI.out.2.2.2 (grownBy_trans H1.out.2 (grownBy_trans H2.out.2.2.2 H3.out.2.2.2))⟩
          · have p5' : (a : Int) < j := by omega
            have p6' : ¬ (e : Int) < b := by omega
            go_wp2_with fail
            refine (rotate_any G N f cfv _ _ _ j m e rfl rfl rfl _ hN p1 p2 (by omega) HI.out.2.2.1).mono ?_
            rintro e1 w1 ⟨rfl, hr1, hg1⟩
            have H1 : Hid (RowF G N (rot f j m e) w1 ∧ wr.grownBy w1 (some G)) := ⟨hr1, hg1⟩
            clear hr1 hg1
            go_wp2_with fail
            refine (HIH.out G N _ _ _ _ a j d rfl rfl rfl _ hN p5 (by omega) (by omega) (by omega) H1.out.1 HS1.out.2.2.1 HS1.out.1).mono ?_
            rintro e1 w2 ⟨rfl, ⟨g1, k1, s1, r1⟩, hg1⟩
            have H2 : Hid (Keeps App.call (rot f j m e) g1 a d ∧ Sorted App.call g1 a d ∧ RowF G N g1 w2 ∧ w1.grownBy w2 (some G)) := ⟨k1, s1, r1, hg1⟩
            clear k1 s1 r1 hg1
            go_wp2_with fail
            all_goals
              go_end0
              obtain ⟨z1, z2⟩ := sym_end HE.out.2 (by omega) hjm hme heb HL.out HS.out HF.out.1 HF.out.2 H2.out.1 H2.out.2.1 (Keeps.refl _ _ _) ((HS1.out.2.1.sub (Nat.le_refl _) (show b ≤ e by omega)).congr fun i h1 h2 => H2.out.1.out i (by omega))
              exact ⟨rfl, ⟨_, z1, z2, H2.out.2.2.1⟩, grownBy_trans HI.out.2.2.2 (grownBy_trans H1.out.2 H2.out.2.2.2)⟩
          · have p5' : ¬ (a : Int) < j := by omega
            have p6' : (e : Int) < b := by omega
            go_wp2_with fail
            refine (rotate_any G N f cfv _ _ _ j m e rfl rfl rfl _ hN p1 p2 (by omega) HI.out.2.2.1).mono ?_
            rintro e1 w1 ⟨rfl, hr1, hg1⟩
            have H1 : Hid (RowF G N (rot f j m e) w1 ∧ wr.grownBy w1 (some G)) := ⟨hr1, hg1⟩
            clear hr1 hg1
            go_wp2_with fail
            all_goals
              refine (HIH.out G N _ _ _ _ d e b rfl rfl rfl _ hN (by omega) p6 (by omega) (by omega) H1.out.1 HS1.out.2.1 HS1.out.2.2.2).mono ?_
              rintro e1 w3 ⟨rfl, ⟨g2, k2, s2, r2⟩, hg2⟩
              have H3 : Hid (Keeps App.call (rot f j m e) g2 d b ∧ Sorted App.call g2 d b ∧ RowF G N g2 w3 ∧ w1.grownBy w3 (some G)) := ⟨k2, s2, r2, hg2⟩
              clear k2 s2 r2 hg2
              go_wp2_with fail
              go_end0
              obtain ⟨z1, z2⟩ := sym_end HE.out.2 (by omega) hjm hme heb HL.out HS.out HF.out.1 HF.out.2 (Keeps.refl _ _ _) (HS1.out.1.sub (by omega) (Nat.le_refl _)) H3.out.1 H3.out.2.1
              exact ⟨rfl, ⟨_, z1, z2, H3.out.2.2.1⟩, grownBy_trans HI.out.2.2.2 (grownBy_trans H1.out.2 H3.out.2.2.2)⟩
          · have p5' : ¬ (a : Int) < j := by omega
            have p6' : ¬ (e : Int) < b := by omega
            go_wp2_with fail
            refine (rotate_any G N f cfv _ _ _ j m e rfl rfl rfl _ hN p1 p2 (by omega) HI.out.2.2.1).mono ?_
            rintro e1 w1 ⟨rfl, hr1, hg1⟩
            have H1 : Hid (RowF G N (rot f j m e) w1 ∧ wr.grownBy w1 (some G)) := ⟨hr1, hg1⟩
            clear hr1 hg1
            go_wp2_with fail
            go_end0
            obtain ⟨z1, z2⟩ := sym_end HE.out.2 (by omega) hjm hme heb HL.out HS.out HF.out.1 HF.out.2 (Keeps.refl _ _ _) (HS1.out.1.sub (by omega) (Nat.le_refl _)) (Keeps.refl _ _ _) (HS1.out.2.1.sub (Nat.le_refl _) (show b ≤ e by omega))
            exact ⟨rfl, ⟨_, z1, z2, H1.out.1⟩, grownBy_trans HI.out.2.2.2 H1.out.2⟩
        · have p1' : (j : Int) < m := by omega
          have p2' : ¬ (m : Int) < e := by omega
          have p3 : ¬ (j : Int) < d := by have := HE.out; omega
          have p4 : (d : Int) < e := by have := HE.out; omega
          have p6' : (e : Int) < b := by omega
          have HQ : Hid (rot f j m e = f) := by
            have : e = m := by omega
            subst this; exact rot_right _
          go_wp2_with fail
          all_goals
            refine (HIH.out G N _ _ _ _ d e b rfl rfl rfl _ hN (by omega) (by omega) (by omega) (by omega) HI.out.2.2.1 (HL.out.sub (by omega) (by omega)) (HS.out.sub hme (Nat.le_refl _))).mono ?_
            rintro e1 w3 ⟨rfl, ⟨g2, k2, s2, r2⟩, hg2⟩
            have H3 : Hid (Keeps App.call f g2 d b ∧ Sorted App.call g2 d b ∧ RowF G N g2 w3 ∧ wr.grownBy w3 (some G)) := ⟨k2, s2, r2, hg2⟩
            clear k2 s2 r2 hg2
            go_wp2_with fail
            go_end0
            obtain ⟨z1, z2⟩ := sym_end (g1 := f) HE.out.2 (by omega) hjm hme heb HL.out HS.out HF.out.1 HF.out.2 (by rw [HQ.out]; exact Keeps.refl _ _ _) (HL.out.sub (Nat.le_refl _) (by have := HE.out; omega)) H3.out.1 H3.out.2.1
            exact ⟨rfl, ⟨_, z1, z2, H3.out.2.2.1⟩, grownBy_trans HI.out.2.2.2 H3.out.2.2.2⟩
        · have p1' : ¬ (j : Int) < m := by omega
          have p2' : (m : Int) < e := by omega
          have p3 : (j : Int) < d := by have := HE.out; omega
          have p4 : ¬ (d : Int) < e := by have := HE.out; omega
          have p5' : (a : Int) < j := by omega
          have HQ : Hid (rot f j m e = f) := by
            have : j = m := by omega
            subst this; exact rot_left _
          go_wp2_with fail
          refine (HIH.out G N _ _ _ _ a j d rfl rfl rfl _ hN (by omega) (by omega) (by omega) (by omega) HI.out.2.2.1 (HL.out.sub (Nat.le_refl _) hjm) (HS.out.sub p1 (by omega))).mono ?_
          rintro e1 w2 ⟨rfl, ⟨g1, k1, s1, r1⟩, hg1⟩
          have H2 : Hid (Keeps App.call f g1 a d ∧ Sorted App.call g1 a d ∧ RowF G N g1 w2 ∧ wr.grownBy w2 (some G)) := ⟨k1, s1, r1, hg1⟩
          clear k1 s1 r1 hg1
          go_wp2_with fail
          all_goals
            go_end0
            obtain ⟨z1, z2⟩ := sym_end (g1 := g1) HE.out.2 (by omega) hjm hme heb HL.out HS.out HF.out.1 HF.out.2 (by rw [HQ.out]; exact H2.out.1) H2.out.2.1 (Keeps.refl _ _ _) ((HS.out.sub (show m ≤ d by omega) (Nat.le_refl _)).congr fun i h1 h2 => H2.out.1.out i (by omega))
            exact ⟨rfl, ⟨_, z1, z2, H2.out.2.2.1⟩, grownBy_trans HI.out.2.2.2 H2.out.2.2.2⟩
        · have p1' : ¬ (j : Int) < m := by omega
          have p2' : ¬ (m : Int) < e := by omega
          have p3 : ¬ (j : Int) < d := by have := HE.out; omega
          have p4 : ¬ (d : Int) < e := by have := HE.out; omega
          have HQ : Hid (rot f j m e = f) := by
            have : j = m := by omega
            subst this; exact rot_left _
          have p5' : (a : Int) < j := by omega
          go_wp2_with fail
          go_end0
          obtain ⟨z1, z2⟩ := sym_end (g1 := f) (g2 := f) HE.out.2 (by omega) hjm hme heb HL.out HS.out HF.out.1 HF.out.2 (by rw [HQ.out]; exact Keeps.refl _ _ _) (HL.out.sub (Nat.le_refl _) (by have := HE.out; omega)) (Keeps.refl _ _ _) (HS.out.sub (by have := HE.out; omega) (Nat.le_refl _))
          exact ⟨rfl, ⟨_, z1, z2, HI.out.2.2.1⟩, HI.out.2.2.2⟩

/-- symMerge merges any two sorted neighbours. -/
theorem sym_ok : ∀ k, SymOk k
  | 0 => fun G N f ai mi bi a m b ha hm hb w hN h1 h2 h3 h4 hr hL hR => by omega
  | k + 1 => fun G N f ai mi bi a m b ha hm hb w hN h1 h2 h3 h4 hr hL hR => by
    by_cases e1 : m = a + 1
    · subst e1
      exact sym_first G N f ai mi bi a b ha hm hb w hN (by omega) h3 hr hR
    · by_cases e2 : b = m + 1
      · subst e2
        exact sym_last G N f ai mi bi a m ha hm hb w hN (by omega) e1 h3 hr hL
      · exact sym_gen k (sym_ok k) G N f ai mi bi a m b ha hm hb w hN (by omega) (by omega) h3 h4 hr hL hR
end Go.Proofs.Ybulkawey
