import Derived.Test.YbulkaweySortRotate
import Derived.Shelf.SlSortCmp.QuietGrown
namespace Go.Proofs.Ybulkawey
open Go.RowKit
set_option linter.unusedVariables false

/-- The comparison that the law hands over. -/
abbrev cfv : Value := .func (.func 9) #[] #[]

theorem cmpI_lt (x y : Int) : cmpI x y < 0 ↔ x < y := by
  unfold cmpI; by_cases h : x < y
  · simp [h]
  · by_cases h2 : y < x <;> simp [h, h2]

theorem mixed : Yba.prog.follows .mixedOrders = true := by kernel_rfl
theorem grownBy_grow (w : World) (k : Nat) (os : Array Obj) : w.grownBy (Sort.grow (w.drewN k) os) none := by
  refine ⟨rfl, rfl, rfl, ?_, fun b hb _ => ?_⟩
  · show w.heap.size ≤ (w.heap ++ os).size
    simp
  · show (w.heap ++ os)[b]? = w.heap[b]?
    rw [Array.getElem?_append_left hb]

set_option maxHeartbeats 400000 in
/-- The closure, its world written out. -/
theorem cmp_grown (p q : App) (w : World) :
    Calls Yba.prog 9 #[.agg #[.int .i64 p.call, .int .i64 p.ret, .string p.val], .agg #[.int .i64 q.call, .int .i64 q.ret, .string q.val]] w fun e w' =>
      e = .returned (.int .i64 (cmpI p.call q.call)) ∧ ∃ k os, w' = Sort.grow (w.drewN k) os := by
  have fin : ∀ o1 o2, ∃ k os, (w.alloc o1).alloc o2 = Sort.grow (w.drewN k) os := fun o1 o2 => ⟨0, #[o1, o2], by
    rw [Sort.alloc_eq_grow, Sort.alloc_eq_grow, Sort.grow_grow]; rfl⟩
  have FIN : Hid (∀ o1 o2, ∃ k os, (w.alloc o1).alloc o2 = Sort.grow (w.drewN k) os) := fin
  clear fin
  by_cases h1 : p.call < q.call
  · have E : Hid (cmpI p.call q.call = -1) := by simp [cmpI, Hid, h1]
    go_enter Yba.func9, Yba.ntmps9
    go_wp2
    go_ret
    exact ⟨by rw [E.out]; rfl, FIN.out _ _⟩
  · by_cases h2 : q.call < p.call
    · have E : Hid (cmpI p.call q.call = 1) := by simp [cmpI, Hid, h1, h2]
      go_enter Yba.func9, Yba.ntmps9
      go_wp2
      go_ret
      exact ⟨by rw [E.out]; rfl, FIN.out _ _⟩
    · have E : Hid (cmpI p.call q.call = 0) := by simp [cmpI, Hid, h1, h2]
      go_enter Yba.func9, Yba.ntmps9
      go_wp2
      go_ret
      exact ⟨by rw [E.out]; rfl, FIN.out _ _⟩

/-- A row's cells, in every world behind draws and new blocks. -/
theorem RowF.cellsG {G N : Nat} {f : Nat → App} {w : World} (h : RowF G N f w) {i : Nat} (hi : i < N) {x : App} (hx : f i = x) :
    (∀ n os, (Sort.grow (w.drewN n) os).cell? ⟨G, i * 3, none⟩ = some (.int .i64 x.call)) ∧ (∀ n os, (Sort.grow (w.drewN n) os).cell? ⟨G, i * 3 + 1, none⟩ = some (.int .i64 x.ret)) ∧
    (∀ n os, (Sort.grow (w.drewN n) os).cell? ⟨G, i * 3 + 2, none⟩ = some (.string x.val)) := by
  subst hx
  exact ⟨fun n os => ((h.grown (grownBy_grow w n os)).cells hi).1, fun n os => ((h.grown (grownBy_grow w n os)).cells hi).2.1, fun n os => ((h.grown (grownBy_grow w n os)).cells hi).2.2⟩

set_option maxHeartbeats 2000000 in
/-- slices.insertionSortCmpFunc. -/
theorem insertion_any (G N : Nat) (f : Nat → App) (ai bi : Int) (a b : Nat) (ha : ai = a) (hb : bi = b) (w : World) (hN : N ≤ 1000) (hab : a ≤ b) (hbN : b ≤ N) (hrow : RowF G N f w) :
    Calls Yba.prog 22 #[.slice (some ⟨G, 0, none⟩) N N, .int .i64 ai, .int .i64 bi, cfv] w fun e w' =>
      e = .returned (.tuple #[]) ∧ (∃ g, Keeps App.call f g a b ∧ Sorted App.call g a b ∧ RowF G N g w') ∧ w.grownBy w' (some G) := by
  subst ha hb
  have HR : Hid (RowF G N f w) := hrow
  clear hrow
  go_enter Yba.func22, Yba.ntmps22
  go_wp2_with fail
  go_loopw [8] (fun i' wr => ∃ (i : Nat) (g : Nat → App), a + 1 ≤ i ∧ (i ≤ b ∨ i = a + 1) ∧ i' = .int .i64 i ∧ Keeps App.call f g a b ∧ Sorted App.call g a i ∧ RowF G N g wr ∧ w.grownBy wr (some G)) (fun i _ => b - (intOf i).toNat)
  case atStart => exact ⟨a + 1, f, Nat.le_refl _, .inr rfl, by go_num, Keeps.refl _ _ _, Sorted.tiny (by omega), HR.out, grownBy_refl _ _⟩
  case round =>
    obtain ⟨i, g, hai, hib, rfl, hk, hs, hr, hg⟩ := hrel
    have HO : Hid (Keeps App.call f g a b ∧ Sorted App.call g a i ∧ RowF G N g wr ∧ w.grownBy wr (some G)) := ⟨hk, hs, hr, hg⟩
    clear hk hs hr hg
    by_cases hlt : i < b
    · have hlt' : (i : Int) < b := by omega
      obtain ⟨wo, rfl⟩ : ∃ wo : World, wo = wr := ⟨_, rfl⟩
      go_wp2_with fail
      go_loopw [9] (fun j' wr => ∃ (j : Nat), a ≤ j ∧ j ≤ i ∧ j' = .int .i64 j ∧ (∀ t, j ≤ t → t < i → (g i).call < (g t).call) ∧ RowF G N (rot g j i (i + 1)) wr ∧ wo.grownBy wr (some G)) (fun j _ => (intOf j).toNat)
      case atStart =>
        refine ⟨i, by omega, Nat.le_refl _, rfl, fun t h1 h2 => by omega, ?_, grownBy_refl _ _⟩
        rw [rot_left]; exact HO.out.2.2.1
      case round =>
        obtain ⟨j, haj, hji, rfl, hall, hr, hg⟩ := hrel
        by_cases hja : a < j
        · obtain ⟨j, rfl⟩ : ∃ j0, j = j0 + 1 := ⟨j - 1, by omega⟩
          obtain ⟨x, hx⟩ : ∃ x, rot g (j + 1) i (i + 1) (j + 1) = x := ⟨_, rfl⟩
          obtain ⟨y, hy⟩ : ∃ y, rot g (j + 1) i (i + 1) j = y := ⟨_, rfl⟩
          have hx' : x = g i := by rw [← hx, rot2 (Nat.le_refl _) (by omega)]; congr 1; omega
          have hy' : y = g j := by rw [← hy, rot1 (by omega)]
          obtain ⟨x0, x1, x2⟩ := hr.cellsG (show j + 1 < N by omega) hx
          obtain ⟨y0, y1, y2⟩ := hr.cellsG (show j < N by omega) hy
          have HX : Hid (rot g (j + 1) i (i + 1) (j + 1) = x ∧ rot g (j + 1) i (i + 1) j = y ∧ x = g i ∧ y = g j) := ⟨hx, hy, hx', hy'⟩
          have HI : Hid ((∀ t, j + 1 ≤ t → t < i → (g i).call < (g t).call) ∧ RowF G N (rot g (j + 1) i (i + 1)) wr ∧ wo.grownBy wr (some G)) := ⟨hall, hr, hg⟩
          clear hall hr hg hx hy hx' hy'
          have hja' : (a : Int) < (j : Int) + 1 := by omega
          have mx := mixed
          have hwp : IntKind.i64.wrap (j : Int) = (j : Int) := by rw [IntKind.wrap_i64]; omega
          have jz : (j : Int) + 1 < (N : Int) := by omega
          have jz1 : (j : Int) < (N : Int) := by omega
          have p0 : (0 : Int) ≤ (j : Int) + 1 := by omega
          have e0 : ((j : Int) + 1).toNat = j + 1 := by omega
          by_cases hc : cmpI x.call y.call < 0
          · go_wp2_with fail
            go_quiet_grown ((go_at_call 9; refine Calls.grown_of (cmp_grown x y _)))
            go_wp2_with fail
            have HG : Hid (wr.grownBy (Sort.grow (wr.drewN nq) osq) none) := grownBy_grow _ _ _
            have HRq : Hid (RowF G N (rot g (j + 1) i (i + 1)) (Sort.grow (wr.drewN nq) osq)) := HI.out.2.1.grown (grownBy_grow _ _ _)
            clear x0 x1 x2 y0 y1 y2
            generalize Sort.grow (wr.drewN nq) osq = wq at HG HRq ⊢
            obtain ⟨x0, x1, x2⟩ := HRq.out.cells (show j + 1 < N by omega)
            obtain ⟨y0, y1, y2⟩ := HRq.out.cells (show j < N by omega)
            rw [HX.out.1] at x0 x1 x2
            rw [HX.out.2.1] at y0 y1 y2
            have f0 := HRq.out.free
            go_region
            go_wp2
            go_roundw
            case rel =>
              have hsw := HRq.out.swap (j + 1) j (by omega) (by omega)
              rw [HX.out.1, HX.out.2.1, rot_last g j i (by omega)] at hsw
              refine ⟨j, by omega, by omega, rfl, fun t h1 h2 => ?_, hsw, grownBy_drew (grownBy_set (grownBy_set (grownBy_set (grownBy_set (grownBy_set (grownBy_set (grownBy_trans HI.out.2.2 (grown_row HG.out G)) _ _) _ _) _ _) _ _) _ _) _ _)⟩
              rcases Nat.eq_or_lt_of_le h1 with e | e
              · subst e
                have := (cmpI_lt _ _).1 hc
                rw [HX.out.2.2.1, HX.out.2.2.2] at this
                exact this
              · exact HI.out.1 t (by omega) h2
            case measure => simp [intOf]
          · go_wp2_with fail
            go_quiet_grown ((go_at_call 9; refine Calls.grown_of (cmp_grown x y _)))
            go_wp2_with fail
            clear x0 x1 x2 y0 y1 y2
            have hge : ¬ x.call < y.call := fun h => by have := (cmpI_lt _ _).2 h; omega
            rw [HX.out.2.2.1, HX.out.2.2.2] at hge
            go_roundw
            case rel =>
              obtain ⟨q1, q2⟩ := merge_last (key := App.call) haj hji HO.out.2.1 (fun t h1 h2 => HI.out.1 t h1 h2) (fun _ => by simp only [Nat.add_sub_cancel]; omega)
              exact ⟨i + 1, _, by omega, .inl (by omega), by go_num, HO.out.1.trans (q1.wide (Nat.le_refl _) (by omega) (by omega)), q2, HI.out.2.1.grown (grownBy_grow _ _ _), grownBy_trans HO.out.2.2.2 (grownBy_trans HI.out.2.2 (grown_row (grownBy_grow _ _ _) G))⟩
            case measure => simp [intOf]; omega
        · have hja' : ¬ (a : Int) < (j : Int) := by omega
          have hjd : decide ((a : Int) < (j : Int)) = false := by simpa using hja'
          have HI : Hid ((∀ t, j ≤ t → t < i → (g i).call < (g t).call) ∧ RowF G N (rot g j i (i + 1)) wr ∧ wo.grownBy wr (some G)) := ⟨hall, hr, hg⟩
          clear hall hr hg
          go_wp2_with fail
          go_region
          go_wp2
          go_roundw
          case rel =>
            obtain ⟨q1, q2⟩ := merge_last (key := App.call) haj hji HO.out.2.1 (fun t h1 h2 => HI.out.1 t h1 h2) (fun h => absurd h hja)
            exact ⟨i + 1, _, by omega, .inl (by omega), by go_num, HO.out.1.trans (q1.wide (Nat.le_refl _) (by omega) (by omega)), q2, HI.out.2.1.drew, grownBy_trans HO.out.2.2.2 (grownBy_drew HI.out.2.2)⟩
          case measure => simp [intOf]; omega
    · go_wp2_with fail
      go_end0
      exact ⟨rfl, ⟨g, HO.out.1, HO.out.2.1.sub (Nat.le_refl _) (by omega), HO.out.2.2.1⟩, HO.out.2.2.2⟩
end Go.Proofs.Ybulkawey
