import Derived.Test.YbulkaweyWith
namespace Go.Proofs.Ybulkawey
open Go.RowKit
set_option linter.unusedVariables false

theorem info27 : (Yba.prog.info? 27).map (fun i => (i.zero, i.size, i.bytes)) = some (some (.agg #[.int .i64 0, .int .i64 0, .string ⟨#[]⟩]), 3, 32) := by kernel_rfl

/-- The cells of an append. -/
def c3 (a : App) : List Value := [.int .i64 a.call, .int .i64 a.ret, .string a.val]
def cs3 (S : List App) : List Value := S.flatMap c3
theorem cs3_snoc (S : List App) (a : App) : cs3 (S ++ [a]) = cs3 S ++ c3 a := by simp [cs3]

/-- What a call owns outlives what keeps the memory that was there. -/
theorem own_kept {w w' : World} {base : Nat} {v : Value} {n : Nat} {xs : List Value} (h : w.ownsRow base 27 3 v n xs) (k : Kp w w') : w'.ownsRow base 27 3 v n xs := by
  refine ⟨h.1, ?_⟩
  rcases h.2 with h0 | ⟨g, cap, cur, hv, hb, hg, r⟩
  · exact .inl h0
  · exact .inr ⟨g, cap, cur, hv, hb, (k.block g (Array.getElem?_eq_some_iff.1 hg).1).trans hg, r⟩
theorem Kp.own {a b c : World} (h : Kp a b) {v : Value} {n : Nat} {xs : List Value} {base : Nat} (ho : b.ownsRow base 27 3 v n xs) (hb : a.heap.size ≤ base) (k : b.grownBy c v.ownBlock) : Kp a c :=
  h.grown k (fun g e => Nat.le_trans hb (ho.lt g e).1)

/-- The world in which an append of one is added: its three cells written into D, then laid in a block of their own. -/
theorem laid_one {w1 : World} {base D : Nat} {v : Value} {n : Nat} {xs : List Value} (b : App) (ho : w1.ownsRow base 27 3 v n xs) (hne : v.ownBlock ≠ some D) {W : World}
    (hW : W = ((((w1.setCell ⟨D, 0, none⟩ (.int .i64 b.call)).setCell ⟨D, 1, none⟩ (.int .i64 b.ret)).setCell ⟨D, 2, none⟩ (.string b.val)).alloc (.cells #[.int .i64 b.call, .int .i64 b.ret, .string b.val] 27))) :
    W.ownsRow base 27 3 v n xs ∧ (∀ j u, (c3 b)[j]? = some u → W.cell? ((⟨w1.heap.size, 0, none⟩ : Addr).add j) = some u) ∧ w1.heap.size < W.heap.size ∧ (∀ w, Kp w w1 → w.heap.size ≤ D → Kp w W) := by
  have hg := grownBy_set (grownBy_set (grownBy_set (grownBy_refl w1 (some D)) 0 (.int .i64 b.call)) 1 (.int .i64 b.ret)) 2 (.string b.val)
  have hs : (((w1.setCell ⟨D, 0, none⟩ (.int .i64 b.call)).setCell ⟨D, 1, none⟩ (.int .i64 b.ret)).setCell ⟨D, 2, none⟩ (.string b.val)).heap.size = w1.heap.size := by simp [World.setCell]
  subst hW
  refine ⟨(ho.kept hg (.inr hne)).alloc _, fun j u hj => ?_, ?_, fun w hk hD => ?_⟩
  · rw [Addr.add_lit, ← hs, World.cell?_alloc_new]
    rw [Nat.zero_add]
    rw [← Array.getElem?_toList]; exact hj
  · show _ < (Array.push _ _).size
    rw [Array.size_push, hs]; omega
  · exact (hk.grown hg (fun g e => by cases e; exact hD)).alloc _

set_option maxRecDepth 100000 in
set_option maxHeartbeats 4000000 in
/-- decode. -/
theorem decode_any (S : List App) (hS : ∀ x ∈ S, App.fits x) (hn : S.length ≤ 256) (u : ByteArray) (hu : u.data.toList = flat S) (hsz : u.size ≤ 4611686018427387904) (w : World) :
    Calls Yba.prog 12 #[.string u] w fun e w' => (∃ v, e = .returned v ∧ w'.ownsRow w.heap.size 27 3 v S.length (cs3 S)) ∧ Kp w w' := by
  have HS : Hid ((∀ x ∈ S, App.fits x) ∧ u.data.toList = flat S) := ⟨hS, hu⟩
  clear hS hu
  obtain ⟨i0, hi, hz0, hz1, hz2⟩ := info_parts info27
  go_enter Yba.func12, Yba.ntmps12
  go_wp2_with fail
  go_loopw [0, 3] (fun s' v wr => ∃ (S1 S2 : List App) (t : ByteArray), S = S1 ++ S2 ∧ s' = .string t ∧ t.data.toList = flat S2 ∧ t.size ≤ u.size ∧ wr.ownsRow w.heap.size 27 3 v S1.length (cs3 S1) ∧ Kp w wr) (fun s _ _ => match s with | .string t => t.size | _ => 0)
  case atStart => exact ⟨[], S, u, rfl, rfl, HS.out.2, Nat.le_refl _, World.ownsRow_nil _ _ _ _, Kp.refl _⟩
  case round =>
    obtain ⟨S1, S2, t, hSS, rfl, ht, htu, hown, hk⟩ := hrel
    have HI : Hid (S = S1 ++ S2 ∧ t.data.toList = flat S2 ∧ wr.ownsRow w.heap.size 27 3 u3 S1.length (cs3 S1) ∧ Kp w wr) := ⟨hSS, ht, hown, hk⟩
    have hlen : S1.length ≤ 256 := by rw [hSS, List.length_append] at hn; omega
    clear hSS ht hown hk
    cases S2 with
    | nil =>
      obtain rfl : t = ⟨#[]⟩ := ba_ext HI.out.2.1
      go_wp2_with fail
      go_ret
      have e1 := HI.out.1
      rw [List.append_nil] at e1
      subst e1
      exact ⟨⟨_, rfl, HI.out.2.2.1⟩, HI.out.2.2.2⟩
    | cons b S2 =>
      have hlen1 : S1.length + 1 ≤ 256 := by
        have := HI.out.1
        rw [this, List.length_append, List.length_cons] at hn
        omega
      have hne : ¬ t = ⟨#[]⟩ := fun e => by
        have h1 := HI.out.2.1
        have h2 := encL_pos b
        rw [e, flat_cons] at h1
        have := congrArg List.length h1
        simp at this
        omega
      have hne2 : t.toList.isEmpty = false := by rw [← decide_eq_emptyBytes]; exact decide_eq_false hne
      go_wp2_with fail
      refine (first_enc b (HS.out.1 b (by rw [HI.out.1]; simp)) (flat S2) t (by rw [HI.out.2.1, flat_cons]) (by omega) _).mono ?_
      rintro e w1 ⟨rfl, hk1⟩
      obtain ⟨D, hD⟩ : ∃ D, wr.heap.size = D := ⟨_, rfl⟩
      have HD : Hid (Kp w w1 ∧ w1.ownsRow w.heap.size 27 3 u3 S1.length (cs3 S1) ∧ w.heap.size ≤ D ∧ w1.heap[D]? = some (.cells #[.int .i64 0, .int .i64 0, .string ⟨#[]⟩] 27 (0, 0))) := by
        have h0 : Kp wr w1 := ((Kp.refl wr).alloc _).trans hk1
        refine ⟨HI.out.2.2.2.trans h0, own_kept HI.out.2.2.1 h0, by rw [← hD]; exact HI.out.2.2.2.size, ?_⟩
        rw [hk1.block D (by rw [← hD]; show _ < (wr.heap.push _).size; simp), ← hD]
        exact heap_alloc_new wr _
      have c0 : w1.cell? ⟨D, 0, none⟩ = some (.int .i64 0) := by rw [cell_of_row w1 D 0 _ 27 (0,0) HD.out.2.2.2]; rfl
      have c1 : w1.cell? ⟨D, 1, none⟩ = some (.int .i64 0) := by rw [cell_of_row w1 D 1 _ 27 (0,0) HD.out.2.2.2]; rfl
      have c2 : w1.cell? ⟨D, 2, none⟩ = some (.string ⟨#[]⟩) := by rw [cell_of_row w1 D 2 _ 27 (0,0) HD.out.2.2.2]; rfl
      have f0 := fun o => frozen_of_row w1 D o _ 27 HD.out.2.2.2
      have hneD : u3.ownBlock ≠ some D := fun e => by have := (HI.out.2.2.1.lt D e).2; omega
      have HAP := laid_one (D := D) b HD.out.2.1 hneD rfl
      have HAP' : Hid _ := HAP
      simp only [hD]
      clear hk1 hD HAP
      go_wp2_with (at_builtin; refine wpList_append_own _ rfl _ _ 23 rfl w.heap.size 27 i0 _ 3 32 Yba.underlying23 hi hz0 hz1 hz2 rfl (by decide) _ _ _ rfl HAP'.out.1 ⟨w1.heap.size, 0, none⟩ 1 1 (c3 b) rfl rfl HAP'.out.2.1 ?c2 ?c3 ?c4 ?c5 ?_)
      case c2 =>
        intro u hu
        simp [c3] at hu
        rcases hu with rfl | rfl | rfl <;> rfl
      case c3 => unfold maxLen; omega
      case c4 => omega
      case c5 =>
        have h1 := HAP'.out.2.2.1
        have h2 := HD.out.1.size
        omega
      intro v' w2 hown' hgrow hnil
      have HO : Hid (w2.ownsRow w.heap.size 27 3 v' (S1.length + 1) (cs3 S1 ++ c3 b) ∧ Kp w w2) :=
        ⟨hown', Kp.own (HAP'.out.2.2.2 w HD.out.1 HD.out.2.2.1) HAP'.out.1 (Nat.le_refl _) hgrow⟩
      clear hown' hgrow hnil c0 c1 c2 f0
      have e1 : (⟨(flat S2).toArray⟩ : ByteArray).size + (encL b).length = t.size := by
        have h1 := congrArg List.length HI.out.2.1
        rw [flat_cons, List.length_append, Array.length_toList] at h1
        show (flat S2).toArray.size + _ = t.data.size
        rw [List.size_toArray]; omega
      have e2 := encL_pos b
      have HE : Hid ((⟨(flat S2).toArray⟩ : ByteArray).size + (encL b).length = t.size ∧ 1 ≤ (encL b).length) := ⟨e1, e2⟩
      clear e1 e2
      go_wp2_with fail
      have e1 := HE.out.1
      have e2 := HE.out.2
      refine ⟨⟨S1 ++ [b], S2, _, ?_, rfl, rfl, by omega, ?_, HO.out.2⟩, ?_⟩
      · rw [HI.out.1]; simp
      · rw [cs3_snoc, List.length_append]; exact HO.out.1
      · show (⟨(flat S2).toArray⟩ : ByteArray).size < t.size
        omega
end Go.Proofs.Ybulkawey
