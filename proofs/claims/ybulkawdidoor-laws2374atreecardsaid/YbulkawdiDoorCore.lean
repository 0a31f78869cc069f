import Derived.Test.YbulkawdiDoorInv
import Derived.Deep.RegionWith
import Derived.Deep.RegionHeld3
namespace Go.Proofs.YbulkawdiDoor
open Go.RowKit


set_option maxRecDepth 100000 in
set_option maxHeartbeats 8000000 in
/-- The law at 1024 items or fewer. -/
theorem law_core (av : Option Addr) (n cap : Nat) (c : Items) (md : Int) (w : World) (hn : n ≤ 1024) (d0 : 0 ≤ md) (d1 : md ≤ 255) (hrows : ∀ a, av = some a → ItemsAt c n a w) (hnil : av = none → n = 0)
    (hIt : ∀ W, Below w.heap.size w W → ItoaIn W) :
    Calls Ybad.prog 3 #[.slice av n cap, .int .u8 md] w fun e w' => e = .returned (.bool true) ∧ Below w.heap.size w w' := by
  have hn' : ¬ (1024 : Int) < n := by omega
  have hmk := make23 n hn
  have hmm := @run_makeMap Ybad.prog
  have HR : Hid (∀ a, av = some a → ItemsAt c n a w) := hrows
  have HN : Hid (av = none → n = 0) := hnil
  clear hrows hnil
  generalize hm : md % 5 + 2 = m
  have m0 : 2 ≤ m := by omega
  have m1 : m ≤ 6 := by omega
  go_enter Ybad.func3, Ybad.ntmps3
  go_wp2_with fail
  clear hm
  go_loopw [6, 8, 9, 31] (fun tv wv lv i wr => ∃ (k t : Nat) (want : Bool) (leaves : Int), k ≤ n ∧ i = .int .i64 k ∧ tv = .slice (some ⟨w.heap.size + 1, 0, none⟩) t (n + 1) ∧ wv = .bool want ∧ lv = .int .i64 leaves ∧
    Inv m w.heap.size n k t want leaves w wr) (fun _ _ _ i _ => n - (intOf i).toNat)
  case atStart => exact ⟨0, 0, false, 0, Nat.zero_le _, rfl, rfl, rfl, rfl, inv_start hn⟩
  case round =>
    obtain ⟨k, t, want, leaves, hk, rfl, rfl, rfl, rfl, xs, Ls, es, clock, hI⟩ := hrel
    have HI : Hid (InvAt m w.heap.size n k t want leaves w wr xs Ls es clock) := hI
    have hl0 : 0 ≤ leaves := by rw [hI.leaves_eq]; omega
    have hl1 : leaves ≤ 1024 := by have := hI.small; omega
    have htk : t ≤ n := by have := hI.tk; omega
    have hbx := hI.box
    have hown := hI.own
    have hws : w.heap.size + 3 ≤ wr.heap.size := hI.size
    clear hI
    by_cases hlt : k < n
    · have hav : ∃ a, av = some a := by
        rcases av with _ | a
        · have := HN.out rfl; omega
        · exact ⟨a, rfl⟩
      obtain ⟨a, rfl⟩ := hav
      obtain ⟨b, off, rfl, hb, hcs⟩ := HR.out a rfl (by omega)
      obtain ⟨h0, h1, ⟨k0, k1⟩, hv⟩ := hcs k hlt
      have c0 : wr.cell? ⟨b, off + k * 2, none⟩ = some (.int .u8 (c.K k)) := (HI.out.below.cell (by exact hb)).trans h0
      have c1 : wr.cell? ⟨b, off + k * 2 + 1, none⟩ = some (.int .i64 (c.V k)) := (HI.out.below.cell (by exact hb)).trans h1
      have cm : wr.cell? ⟨w.heap.size, 0, none⟩ = some (.int .i64 m) := by rw [cell_of_row wr _ 0 _ _ _ hbx]; rfl
      have cm' : ∀ o, (wr.alloc o).cell? ⟨w.heap.size, 0, none⟩ = some (.int .i64 m) := fun o => by rw [World.cell?_alloc_lt _ _ _ (by show w.heap.size < _; omega), cm]
      have HV : Hid (In64 (c.V k)) := hv
      obtain ⟨v0, v1⟩ := hv
      have hlt' : (k : Int) < n := by omega
      clear hcs h0 h1 HR HN hbx
      obtain ⟨i0, hi, hz0, hz1, hz2⟩ := info_parts info20
      rcases (show c.K k % 6 = 0 ∨ c.K k % 6 = 1 ∨ c.K k % 6 = 2 ∨ c.K k % 6 = 3 ∨ c.K k % 6 = 4 ∨ c.K k % 6 = 5 by omega) with h | h | h | h | h | h
      · have q0 : (c.K k % 6 == 0) = true := by simp [h]
        clear h
        rcases hh : ((c.V k).tmod m == 0) with _ | _
        all_goals
          have HH : Hid (hitB m (c.V k) = ((c.V k).tmod m == 0)) := rfl
          rw [hh] at HH
          go_wp2_with (at_builtin; refine wpList_append_fits _ rfl _ _ 23 rfl w.heap.size 20 i0 1 Ybad.underlying23 hi hz1 (w.heap.size + 1) t (n + 1) xs rfl ((hown.alloc _).alloc _) ⟨wr.heap.size + 1, 0, none⟩ 1 1 [.iface 3 (.int .i64 (c.V k))] rfl rfl (one_new _ _ _ (by simp)) (one_cell _ _) (by omega) ?_; intro W8 own8 g8)
          have HP := inv_push (want' := want || hitB m (c.V k)) (leaves' := leaves + 1) HI.out (u := .iface 3 (.int .i64 (c.V k))) (Lu := [c.V k]) (grownBy_trans (World.grownBy_alloc _ _ _) (World.grownBy_alloc _ _ _)) (leafy_int HV.out) (by simp) g8 own8 (by simp) (by simp)
          rw [HH.out] at HP
          simp only [Bool.or_false, Bool.or_true] at HP
          have HPH : Hid (Inv m w.heap.size n (k + 1) (t + 1) _ (leaves + 1) w W8) := HP
          clear HP own8 g8 HI hown
          go_wp2_with fail
          go_roundw
          case rel => exact ⟨k + 1, t + 1, _, _, by omega, by go_num, rfl, rfl, rfl, HPH.out⟩
          case measure => simp [intOf]; omega
      · have q0 : (c.K k % 6 == 0) = false := by simp [h]
        have q1 : (c.K k % 6 == 1) = true := by simp [h]
        clear h
        rcases hh : ((c.V k).tmod m == 0) with _ | _
        all_goals
          have HH : Hid (hitB m (c.V k) = ((c.V k).tmod m == 0)) := rfl
          rw [hh] at HH
          go_wp2_with (at_builtin; refine wpList_append_fits _ rfl _ _ 23 rfl w.heap.size 20 i0 1 Ybad.underlying23 hi hz1 (w.heap.size + 1) t (n + 1) xs rfl ((((hown.alloc _).alloc _).alloc _).alloc _) ⟨wr.heap.size + 3, 0, none⟩ 1 1 [.iface 23 (.slice (some ⟨wr.heap.size + 2, 0, none⟩) 2 2)] rfl rfl (one_new _ _ _ (by simp)) (one_cell _ _) (by omega) ?_; intro W8 own8 g8)
          have HP := inv_push (want' := want || hitB m (c.V k)) (leaves' := leaves + 1) HI.out (u := .iface 23 (.slice (some ⟨wr.heap.size + 2, 0, none⟩) 2 2)) (Lu := [c.V k]) (grownBy_trans (World.grownBy_alloc _ _ _) (grownBy_trans (World.grownBy_alloc _ _ _) (grownBy_trans (World.grownBy_alloc _ _ _) (World.grownBy_alloc _ _ _)))) (leafy_kind1 hws HV.out) (by simp) g8 own8 (by simp) (by simp)
          rw [HH.out] at HP
          simp only [Bool.or_false, Bool.or_true] at HP
          have HPH : Hid (Inv m w.heap.size n (k + 1) (t + 1) _ (leaves + 1) w W8) := HP
          clear HP own8 g8 HI hown
          go_wp2_with fail
          go_roundw
          case rel => exact ⟨k + 1, t + 1, _, _, by omega, by go_num, rfl, rfl, rfl, HPH.out⟩
          case measure => simp [intOf]; omega
      · have q0 : (c.K k % 6 == 0) = false := by simp [h]
        have q1 : (c.K k % 6 == 1) = false := by simp [h]
        have q2 : (c.K k % 6 == 2) = true := by simp [h]
        clear h
        rcases hh : ((c.V k).tmod m == 0) with _ | _
        all_goals
          have HH : Hid (hitB m (c.V k) = ((c.V k).tmod m == 0)) := rfl
          rw [hh] at HH
          go_wp2_with (first | (refine step_insert rfl _ _ _ rfl (wr.heap.size + 1) 0 #[] ⟨#[97]⟩ (.iface 3 (.int .i64 (c.V k))) rfl rfl rfl (heap_at _ _ _ (by simp)) len_a (fresh_nil _) ?_; intro W3 hm3 g3 s3; simp at s3) | (at_builtin; refine wpList_append_fits _ rfl _ _ 23 rfl w.heap.size 20 i0 1 Ybad.underlying23 hi hz1 (w.heap.size + 1) t (n + 1) xs rfl ((((hown.alloc _).alloc _).kept g3 (.inr (by simp [Value.ownBlock]; omega))).alloc _) ⟨wr.heap.size + 2, 0, none⟩ 1 1 [.iface 24 (.map (some (wr.heap.size + 1)))] rfl rfl (one_new _ _ _ s3.symm) (one_cell _ _) (by omega) ?_; intro W8 own8 g8))
          have G7 := grownBy_trans (grown_new (grownBy_trans (World.grownBy_alloc _ _ _) (World.grownBy_alloc _ _ _)) g3 (by omega)) (World.grownBy_alloc W3 (.cells #[.iface 24 (.map (some (wr.heap.size + 1)))] 20) none)
          have HP := inv_push (want' := want || hitB m (c.V k)) (leaves' := leaves + 1) HI.out (u := .iface 24 (.map (some (wr.heap.size + 1)))) (Lu := [c.V k]) G7 (leafy_map1 (by omega) (heap_under _ hm3) rfl (leafy_int HV.out)) (by simp) g8 own8 (by simp) (by simp)
          rw [HH.out] at HP
          simp only [Bool.or_false, Bool.or_true] at HP
          have HPH : Hid (Inv m w.heap.size n (k + 1) (t + 1) _ (leaves + 1) w W8) := HP
          clear HP G7 hm3 g3 s3 own8 g8 HI hown
          go_wp2_with fail
          go_roundw
          case rel => exact ⟨k + 1, t + 1, _, _, by omega, by go_num, rfl, rfl, rfl, HPH.out⟩
          case measure => simp [intOf]; omega
      · have q0 : (c.K k % 6 == 0) = false := by simp [h]
        have q1 : (c.K k % 6 == 1) = false := by simp [h]
        have q2 : (c.K k % 6 == 2) = false := by simp [h]
        have q3 : (c.K k % 6 == 3) = true := by simp [h]
        clear h
        rcases hh : ((c.V k).tmod m == 0) with _ | _
        all_goals
          have HH : Hid (hitB m (c.V k) = ((c.V k).tmod m == 0)) := rfl
          rw [hh] at HH
          have HIt := hIt (wr.alloc (.cells #[.int .u8 (c.K k), .int .i64 (c.V k)] 26)).drew (HI.out.below.alloc (by omega) _).drew
          have HItH : Hid (ItoaIn (wr.alloc (.cells #[.int .u8 (c.K k), .int .i64 (c.V k)] 26)).drew) := HIt
          clear HIt
          have hsz := numStr_size k (by omega)
          have HUP : ∀ W : World, W.heap[w.heap.size + 2]? = some (.map es clock) → (Instr.mapUpdate 24 (.map (some (w.heap.size + 1 + 1))) (.string (⟨#[107]⟩ ++ numStr k)) (.iface 3 (.int .i64 (c.V k)))).run Ybad.prog W = .ok () (Go.ChangeMaps.setBlock W (w.heap.size + 2) (.map (es.push ⟨.string (keyStr k), .iface 3 (.int .i64 (c.V k)), clock⟩) (clock + 1))) := fun W hW => put_eq W _ _ _ (keyStr k) _ hW (keyStr_size k (by omega)) (fresh_key HI.out (by omega))
          have hmp := HI.out.map
          go_wp2_with fail
          go_region_with (go_at_call 4; refine (HItH.out k (by omega)).mono ?_; rintro e W2 ⟨rfl, hgW⟩; have cW := it_cell hgW; have mW := map_after hgW hmp)
          all_goals
            rename_i W2 hgW cW mW _
            obtain ⟨hm8, g8⟩ := set_grown W2 (w.heap.size + 2) (.map (es.push ⟨.string (keyStr k), .iface 3 (.int .i64 (c.V k)), clock⟩) (clock + 1)) mW
            have HP := inv_put (want' := want || hitB m (c.V k)) (leaves' := leaves + 1) HI.out HV.out (grownBy_trans (World.grownBy_alloc _ _ _) (grown_drew hgW)) g8 hm8 rfl rfl
            rw [HH.out] at HP
            simp only [Bool.or_false, Bool.or_true] at HP
            generalize hW8 : Go.ChangeMaps.setBlock W2 (w.heap.size + 2) (.map (es.push ⟨.string (keyStr k), .iface 3 (.int .i64 (c.V k)), clock⟩) (clock + 1)) = W8 at HP ⊢
            have HPH : Hid (Inv m w.heap.size n (k + 1) t _ (leaves + 1) w W8) := HP
            clear HP hm8 g8 HUP HItH hsz hgW cW mW hmp HI hown hW8
            go_wp2_with fail
            go_roundw
            case rel => exact ⟨k + 1, t, _, _, by omega, by go_num, rfl, rfl, rfl, HPH.out⟩
            case measure => simp [intOf]; omega
      · have q0 : (c.K k % 6 == 0) = false := by simp [h]
        have q1 : (c.K k % 6 == 1) = false := by simp [h]
        have q2 : (c.K k % 6 == 2) = false := by simp [h]
        have q3 : (c.K k % 6 == 3) = false := by simp [h]
        have q4 : (c.K k % 6 == 4) = true := by simp [h]
        clear h
        go_wp2_with (at_builtin; refine wpList_append_fits _ rfl _ _ 23 rfl w.heap.size 20 i0 1 Ybad.underlying23 hi hz1 (w.heap.size + 1) t (n + 1) xs rfl (((hown.alloc _).alloc _).alloc _) ⟨wr.heap.size + 2, 0, none⟩ 1 1 [.iface 23 (.slice (some ⟨wr.heap.size + 1, 0, none⟩) 0 0)] rfl rfl (one_new _ _ _ (by simp)) (one_cell _ _) (by omega) ?_; intro W8 own8 g8)
        have HP := inv_push (want' := want) (leaves' := leaves) HI.out (u := .iface 23 (.slice (some ⟨wr.heap.size + 1, 0, none⟩) 0 0)) (Lu := []) (grownBy_trans (World.grownBy_alloc _ _ _) (grownBy_trans (World.grownBy_alloc _ _ _) (World.grownBy_alloc _ _ _))) (leafy_kind4 hws) (by simp) g8 own8 (by simp) (by simp)
        have HPH : Hid (Inv m w.heap.size n (k + 1) (t + 1) want leaves w W8) := HP
        clear HP own8 g8 HI hown
        go_wp2_with fail
        go_roundw
        case rel => exact ⟨k + 1, t + 1, _, _, by omega, by go_num, rfl, rfl, rfl, HPH.out⟩
        case measure => simp [intOf]; omega
      · have q0 : (c.K k % 6 == 0) = false := by simp [h]
        have q1 : (c.K k % 6 == 1) = false := by simp [h]
        have q2 : (c.K k % 6 == 2) = false := by simp [h]
        have q3 : (c.K k % 6 == 3) = false := by simp [h]
        have q4 : (c.K k % 6 == 4) = false := by simp [h]
        clear h
        rcases hh : ((c.V k).tmod m == 0) with _ | _
        all_goals
          have HH : Hid (hitB m (c.V k) = ((c.V k).tmod m == 0)) := rfl
          rw [hh] at HH
          go_wp2_with (first | (refine step_insert rfl _ _ _ rfl (wr.heap.size + 1) 0 #[] ⟨#[97]⟩ (.iface 23 (.slice (some ⟨wr.heap.size + 2, 0, none⟩) 1 1)) rfl rfl rfl (heap_under _ (heap_at _ _ _ (by simp))) len_a (fresh_nil _) ?_; intro W4 hm4 g4 s4; simp at s4) | (refine step_insert rfl _ _ _ rfl (wr.heap.size + 1) 1 #[⟨.string ⟨#[97]⟩, (.iface 23 (.slice (some ⟨wr.heap.size + 2, 0, none⟩) 1 1)), 0⟩] ⟨#[98]⟩ (.iface 24 (.map (some (wr.heap.size + 3)))) rfl rfl rfl (heap_under _ hm4) len_b (fresh_ab _ _) ?_; intro W6 hm6 g6 s6; simp [s4] at s6) | (at_builtin; refine wpList_append_fits _ rfl _ _ 23 rfl w.heap.size 20 i0 1 Ybad.underlying23 hi hz1 (w.heap.size + 1) t (n + 1) xs rfl (((((((hown.alloc _).alloc _).alloc _).kept g4 (.inr (by simp [Value.ownBlock]; omega))).alloc _).kept g6 (.inr (by simp [Value.ownBlock]; omega))).alloc _) ⟨wr.heap.size + 4, 0, none⟩ 1 1 [.iface 24 (.map (some (wr.heap.size + 1)))] rfl rfl (one_new _ _ _ s6.symm) (one_cell _ _) (by omega) ?_; intro W8 own8 g8))
          have G6 := grown_new (grownBy_trans (grown_new (grownBy_trans (World.grownBy_alloc _ _ _) (grownBy_trans (World.grownBy_alloc _ _ _) (World.grownBy_alloc _ _ _))) g4 (by omega)) (World.grownBy_alloc _ _ _)) g6 (by omega)
          have G7 := grownBy_trans G6 (World.grownBy_alloc W6 (.cells #[.iface 24 (.map (some (wr.heap.size + 1)))] 20) none)
          have hs2 : (W6.alloc (.cells #[.iface 24 (.map (some (wr.heap.size + 1)))] 20)).heap[wr.heap.size + 2]? = some (.cells #[.iface 3 (.int .i64 (c.V k))] 20 (0, 0)) := heap_under _ (heap_row g6 (heap_under _ (heap_row g4 (heap_at _ _ _ (by simp)) (by omega))) (by omega))
          have hs3 : (W6.alloc (.cells #[.iface 24 (.map (some (wr.heap.size + 1)))] 20)).heap[wr.heap.size + 3]? = some (.map #[] 0) := heap_under _ (heap_row g6 (heap_at _ _ _ s4.symm) (by omega))
          have HP := inv_push (want' := want || hitB m (c.V k)) (leaves' := leaves + 1) HI.out (u := .iface 24 (.map (some (wr.heap.size + 1)))) (Lu := [c.V k]) G7 (leafy_map2 (L := [c.V k]) (M := []) (by omega) (heap_under _ hm6) rfl rfl (leafy_one (by omega) hs2 (leafy_int HV.out)) (leafy_map0 (by omega) hs3)) (by simp) g8 own8 (by simp) (by simp)
          rw [HH.out] at HP
          simp only [Bool.or_false, Bool.or_true] at HP
          have HPH : Hid (Inv m w.heap.size n (k + 1) (t + 1) _ (leaves + 1) w W8) := HP
          clear HP G7 G6 hs2 hs3 hm4 g4 s4 hm6 g6 s6 own8 g8 HI hown
          go_wp2_with fail
          go_roundw
          case rel => exact ⟨k + 1, t + 1, _, _, by omega, by go_num, rfl, rfl, rfl, HPH.out⟩
          case measure => simp [intOf]; omega
    · obtain ⟨i0, hi, hz0, hz1, hz2⟩ := info_parts info20
      clear HR HN hbx hIt
      obtain rfl : k = n := by omega
      go_wp2_with (at_builtin; refine wpList_append_fits _ rfl _ _ 23 rfl w.heap.size 20 i0 1 Ybad.underlying23 hi hz1 (w.heap.size + 1) t (k + 1) xs rfl (hown.alloc _) ⟨wr.heap.size, 0, none⟩ 1 1 [.iface 24 (.map (some (w.heap.size + 2)))] rfl rfl (one_new _ _ _ (by simp)) (one_cell _ _) (by omega) ?_; intro W8 own8 g8)
      have hW8 : w.heap.size + 3 ≤ W8.heap.size := Nat.le_trans hws (Nat.le_trans (World.grownBy_alloc wr (.cells #[.iface 24 (.map (some (w.heap.size + 1 + 1)))] 20) none).size g8.size)
      have HT := final_tree HI.out hn (World.grownBy_alloc _ _ _) g8 own8 (grownBy_trans (World.grownBy_alloc W8 (.cells #[.int .i64 0] 3) none) (World.grownBy_alloc _ (.cells #[.bool false] 4) none))
      have HEv : Env W8.heap.size (W8.heap.size + 1) w.heap.size 0 m ((W8.alloc (.cells #[.int .i64 0] 3)).alloc (.cells #[.bool false] 4)) :=
        ⟨heap_under _ (heap_alloc_new _ _), heap_at _ _ _ (by simp), heap_under _ (heap_under _ (heap_row g8 (heap_under _ HI.out.box) (by omega))), by omega⟩
      have hLl : (((Ls.flatten ++ es.toList.flatMap leafOf).length : Nat) : Int) = leaves := HI.out.leaves_eq.symm
      refine (any_all W8.heap.size (W8.heap.size + 1) w.heap.size m m0 m1 4 _ _ 0 _ HT HEv (Int.le_refl _) (by omega)).mono ?_
      rintro e W ⟨r, c', rfl, ⟨a1, a2, a3⟩, ⟨hc, hb, _, _⟩, hg⟩
      have HB : Hid (Below w.heap.size w W) :=
        (((((HI.out.below.alloc (by omega) _).grown g8 (by simp; omega) (fun j hj => by cases hj; omega)).alloc (by omega) _).alloc (by simp; omega) _).grown hg (by simp; omega) (fun j hj => by cases hj; omega))
      have cB : W.cell? ⟨W8.heap.size + 1, 0, none⟩ = some (.bool false) := by rw [cell_of_row W _ 0 _ _ _ hb]; rfl
      have cC : W.cell? ⟨W8.heap.size, 0, none⟩ = some (.int .i64 c') := by rw [cell_of_row W _ 0 _ _ _ hc]; rfl
      have hwr : want = r := HI.out.want_eq.trans a1.symm
      subst hwr
      rw [hLl] at a2 a3
      clear a1 hg hc hb hLl HEv HT hW8 own8 g8 HI hown hmk
      cases want
      · have hce : c' = 0 + leaves := a2 rfl
        have hce' : (c' == leaves) = true := by simp; omega
        clear a2 a3 hce
        go_wp2_with fail
        go_ret
        exact ⟨rfl, HB.out⟩
      · have hce := a3 rfl
        have hc1 : 1 ≤ c' := by omega
        have hc2 : c' ≤ leaves := by omega
        clear a2 a3 hce
        go_wp2_with fail
        go_ret
        exact ⟨rfl, HB.out⟩
end Go.Proofs.YbulkawdiDoor
