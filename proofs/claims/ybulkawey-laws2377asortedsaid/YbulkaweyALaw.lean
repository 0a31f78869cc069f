import Derived.Test.YbulkaweyASorted
namespace Go.Proofs.Ybulkawey
open Go.RowKit
set_option linter.unusedVariables false

set_option maxHeartbeats 1000000 in
/-- The law, of more than 256 items. -/
theorem law_long (ao : Option Addr) (n cap : Nat) (w : World) (hn : 256 < n) (hm : n ≤ maxLen) :
    Calls Yba.prog 3 #[.slice ao n cap] w fun e w' => e = .returned (.bool true) ∧ Kp w w' := by
  have hn' : (256 : Int) < n := by omega
  go_enter Yba.func3, Yba.ntmps3
  go_wp2_with fail
  go_ret
  exact ⟨rfl, Kp.refl _⟩

set_option maxRecDepth 100000 in
set_option maxHeartbeats 4000000 in
/-- The law, of at most 256 items. -/
theorem law_body (ao : Option Addr) (n cap : Nat) (f : Nat → App) (w : World) (hn : n ≤ 256) (hit : Items ao n f w) (hf : ∀ i, i < n → (f i).fits) :
    Calls Yba.prog 3 #[.slice ao n cap] w fun e w' => e = .returned (.bool true) ∧ Kp w w' := by
  have HF : Hid (Items ao n f w ∧ ∀ i, i < n → (f i).fits) := ⟨hit, hf⟩
  clear hit hf
  obtain ⟨i0, hi, hz0, hz1, hz2⟩ := info_parts info27
  have hn' : ¬ (256 : Int) < n := by omega
  go_enter Yba.func3, Yba.ntmps3
  go_wp2_with (at_make; refine wpList_make_own _ rfl _ _ 23 rfl w.heap.size 27 i0 _ 3 Yba.underlying23 hi hz0 hz1 .i64 .i64 _ n rfl rfl rfl (by rw [hz2]; omega) (by unfold maxLen; omega) (Nat.le_refl _) ?_)
  intro w0 hown0 hgrow0
  have H0 : Hid (w0.ownsRow w.heap.size 27 3 (.slice (some ⟨w.heap.size, 0, none⟩) 0 n) 0 [] ∧ Kp w w0) := ⟨hown0, (Kp.refl w).grown hgrow0 (fun g e => by cases e)⟩
  clear hown0 hgrow0
  obtain ⟨G, hG⟩ : ∃ G, w.heap.size = G := ⟨_, rfl⟩
  rw [hG] at H0
  simp only [hG]
  have HG : Hid (w.heap.size = G) := hG
  clear hG
  go_wp2_with fail
  go_loopw [3, 4, 16] (fun u' v' k' wr => ∃ (k : Nat) (S : List App) (t : ByteArray), k ≤ n ∧ u' = .string t ∧ v' = .slice (some ⟨G, 0, none⟩) k n ∧ k' = .int .i64 k ∧ t.data.toList = flat S ∧ Upto f k S ∧ wr.ownsRow G 27 3 (.slice (some ⟨G, 0, none⟩) k n) k (cs3 (seg f 0 k)) ∧ Kp w wr) (fun _ _ k _ => n - (intOf k).toNat)
  case atStart =>
    refine ⟨0, [], ⟨#[]⟩, Nat.zero_le _, rfl, rfl, rfl, rfl, ⟨rfl, List.Pairwise.nil, fun x h => by simp at h, fun c => by simp [seg]⟩, H0.out.1, H0.out.2⟩
  case round =>
    obtain ⟨k, S, t, hkn, rfl, rfl, rfl, ht, hS, hown, hk⟩ := hrel
    have HI : Hid (t.data.toList = flat S ∧ Upto f k S ∧ wr.ownsRow G 27 3 (.slice (some ⟨G, 0, none⟩) k n) k (cs3 (seg f 0 k)) ∧ Kp w wr) := ⟨ht, hS, hown, hk⟩
    have hts : t.size ≤ 36028797018971648 := by
      have h1 := flat_length S hS.2.2.1
      rw [← ht, Array.length_toList, hS.1] at h1
      have h3 : t.size = t.data.size := rfl
      omega
    clear ht hS hown hk
    by_cases hlt : k < n
    · have hlt' : (k : Int) < n := by omega
      obtain ⟨b, off, rfl, hb, hc⟩ := HF.out.1 (by omega)
      obtain ⟨x0, x1, x2⟩ := hc k hlt
      have HB : Hid (b < w.heap.size) := hb
      rw [← HI.out.2.2.2.cell hb] at x0 x1 x2
      obtain ⟨X, hX⟩ : ∃ X, f k = X := ⟨_, rfl⟩
      rw [hX] at x0 x1 x2
      have HX : Hid (f k = X) := hX
      clear hX hc hb
      go_wp2_with fail
      refine (with_any X (by rw [← HX.out]; exact HF.out.2 k hlt) S HI.out.2.1.2.2.1 t HI.out.1 (by omega) _).mono ?_
      rintro e w1 ⟨⟨S1, S2, v, q1, q2, q3, q4, rfl⟩, hk1⟩
      have HQ : Hid (S = S1 ++ S2 ∧ (∀ x ∈ S1, x.call ≤ X.call) ∧ (∀ x, S2.head? = some x → X.call < x.call) ∧ v.data.toList = flat (S1 ++ X :: S2)) := ⟨q1, q2, q3, q4⟩
      clear q1 q2 q3 q4
      have hs2 : ((wr.alloc (.cells #[.int .i64 X.call, .int .i64 X.ret, .string X.val] 25)).alloc (.cells #[.int .i64 X.call, .int .i64 X.ret, .string X.val] 27)).heap.size = wr.heap.size + 2 := by
        show ((wr.heap.push _).push _).size = _
        simp
      have HK1 : Hid (Kp wr w1) := (((Kp.refl wr).alloc _).alloc _).trans hk1
      have c0 := hk1.cell (g := wr.heap.size + 1) (o := 0) (by omega)
      have c1 := hk1.cell (g := wr.heap.size + 1) (o := 1) (by omega)
      have c2 := hk1.cell (g := wr.heap.size + 1) (o := 2) (by omega)
      have d0 : w1.cell? ⟨wr.heap.size + 1, 0, none⟩ = some (.int .i64 X.call) := c0.trans (by simp)
      have d1 : w1.cell? ⟨wr.heap.size + 1, 1, none⟩ = some (.int .i64 X.ret) := c1.trans (by simp)
      have d2 : w1.cell? ⟨wr.heap.size + 1, 2, none⟩ = some (.string X.val) := c2.trans (by simp)
      clear c0 c1 c2 hk1 hs2 x0 x1 x2
      have HO : Hid (w1.ownsRow G 27 3 (.slice (some ⟨G, 0, none⟩) k n) k (cs3 (seg f 0 k))) := own_kept HI.out.2.2.1 HK1.out
      go_wp2_with (at_builtin; refine wpList_append_fits _ rfl _ _ 23 rfl G 27 i0 3 Yba.underlying23 hi hz1 G k n (cs3 (seg f 0 k)) rfl (HO.out.alloc _) ⟨w1.heap.size, 0, none⟩ 1 1 (c3 X) rfl rfl ?c1 ?c2 (by omega) ?_)
      case c1 =>
        intro j u hj
        rw [Addr.add_lit, World.cell?_alloc_new, Nat.zero_add, ← Array.getElem?_toList]
        exact hj
      case c2 =>
        intro u hu
        simp [c3] at hu
        rcases hu with rfl | rfl | rfl <;> rfl
      intro w2 hown2 hgrow2
      have H2 : Hid (w2.ownsRow G 27 3 (.slice (some ⟨G, 0, none⟩) (k + 1) n) (k + 1) (cs3 (seg f 0 k) ++ c3 X) ∧ Kp w w2) :=
        ⟨hown2, ((HI.out.2.2.2.trans HK1.out).alloc _).grown hgrow2 (fun g e => by cases e; have := HG.out; omega)⟩
      clear hown2 hgrow2 d0 d1 d2
      go_wp2_with fail
      go_roundw
      case rel =>
        have h1 : Upto f (k + 1) (S1 ++ X :: S2) := by
          have := HI.out.2.1.step (HF.out.2 k hlt) HQ.out.1 (by rw [HX.out]; exact HQ.out.2.1) (by rw [HX.out]; exact HQ.out.2.2.1)
          rwa [HX.out] at this
        refine ⟨k + 1, _, v, by omega, rfl, rfl, by go_num, HQ.out.2.2.2, h1, ?_, H2.out.2⟩
        rw [seg_snoc, cs3_snoc, HX.out]; exact H2.out.1
      case measure => simp [intOf]; omega
    · obtain rfl : k = n := by omega
      have hlt' : ¬ (k : Int) < k := by omega
      go_wp2_with fail
      obtain ⟨hrow, hGlt⟩ := own_row HI.out.2.2.1
      have HGl : Hid (G < wr.heap.size) := hGlt
      refine (sortStable_any G k f _ (by omega) hrow).mono ?_
      clear hrow hGlt
      rintro e w1 ⟨rfl, ⟨g, g1, g2, g3⟩, hg⟩
      have H1 : Hid (S = seg g 0 k ∧ RowF G k g w1 ∧ Kp w w1) :=
        ⟨HI.out.2.1.sorted g1 g2, g3, HI.out.2.2.2.grown hg (fun g' e => by cases e; have := HG.out; omega)⟩
      clear g1 g2 g3 hg
      go_wp2_with fail
      refine (decode_any S HI.out.2.1.2.2.1 (by rw [HI.out.2.1.1]; exact hn) t HI.out.1 (by omega) _).mono ?_
      rintro e w2 ⟨⟨v, rfl, hv⟩, hk2⟩
      have H2 : Hid (w2.ownsRow w1.heap.size 27 3 v k (cs3 (seg g 0 k)) ∧ Kp w1 w2) := by
        have := hv
        rw [HI.out.2.1.1] at this
        rw [← H1.out.1]
        exact ⟨this, hk2⟩
      clear hv hk2
      go_wp2_with fail
      have hA : At G k g w2 := fun i hi => (H1.out.2.1.keptK H2.out.2).cells hi
      have hGl2 : G < w2.heap.size := (H1.out.2.1.keptK H2.out.2).lt
      rcases H2.out.1.2 with ⟨rfl, e0⟩ | ⟨gg, cap', cur, rfl, _⟩
      · subst e0
        refine (eq_nil _ w2).mono ?_
        rintro e w3 ⟨rfl, hk3⟩
        have H3 : Hid (Kp w w3) := H1.out.2.2.trans (H2.out.2.trans hk3)
        clear hk3 hA hGl2
        go_wp2_with fail
        go_ret
        exact ⟨rfl, H3.out⟩
      · obtain ⟨hB, hBl⟩ := own_at H2.out.1
        refine (eq_any gg G k cap' k g w2 hn hB hA hBl hGl2).mono ?_
        rintro e w3 ⟨rfl, hk3⟩
        have H3 : Hid (Kp w w3) := H1.out.2.2.trans (H2.out.2.trans hk3)
        clear hk3 hA hGl2 hB hBl
        go_wp2_with fail
        go_ret
        exact ⟨rfl, H3.out⟩
end Go.Proofs.Ybulkawey
