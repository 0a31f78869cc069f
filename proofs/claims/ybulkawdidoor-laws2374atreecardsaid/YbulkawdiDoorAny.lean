import Derived.Test.YbulkawdiDoorTree
namespace Go.Proofs.YbulkawdiDoor
open Go.RowKit

theorem assert23_3 (x : Value) (w : World) : (Instr.typeAssert (.iface 3 x) 20 23 true).run Ybad.prog w = .ok (.tuple #[.slice none 0 0, .bool false]) w := by kernel_rfl
theorem assert24_3 (x : Value) (w : World) : (Instr.typeAssert (.iface 3 x) 20 24 true).run Ybad.prog w = .ok (.tuple #[.map none, .bool false]) w := by kernel_rfl
theorem assert3_3 (x : Value) (w : World) : (Instr.typeAssert (.iface 3 x) 20 3 true).run Ybad.prog w = .ok (.tuple #[x, .bool true]) w := by kernel_rfl
theorem assert23_23 (x : Value) (w : World) : (Instr.typeAssert (.iface 23 x) 20 23 true).run Ybad.prog w = .ok (.tuple #[x, .bool true]) w := by kernel_rfl
theorem assert23_24 (x : Value) (w : World) : (Instr.typeAssert (.iface 24 x) 20 23 true).run Ybad.prog w = .ok (.tuple #[.slice none 0 0, .bool false]) w := by kernel_rfl
theorem assert24_24 (x : Value) (w : World) : (Instr.typeAssert (.iface 24 x) 20 24 true).run Ybad.prog w = .ok (.tuple #[x, .bool true]) w := by kernel_rfl

set_option maxHeartbeats 400000 in
/-- The closure at a leaf. -/
theorem test_any (cc bb mm : Nat) (c m x : Int) (w : World) (hE : Env cc bb mm c m w) (h0 : 0 ≤ c) (h1 : c ≤ 1000000) (m0 : 2 ≤ m) (m1 : m ≤ 6) (hx : In64 x) :
    Calls Ybad.prog 5 #[.iface 3 (.int .i64 x), .pointer (some ⟨cc, 0, none⟩), .pointer (some ⟨bb, 0, none⟩), .pointer (some ⟨mm, 0, none⟩)] w fun e w' =>
      e = .returned (.bool (hitB m x)) ∧ w' = w.setCell ⟨cc, 0, none⟩ (.int .i64 (c + 1)) := by
  obtain ⟨hc, hb, hm, hne⟩ := hE
  obtain ⟨x0, x1⟩ := hx
  have c0 : w.cell? ⟨cc, 0, none⟩ = some (.int .i64 c) := by rw [cell_of_row w cc 0 _ _ _ hc]; rfl
  have f0 : w.frozen? ⟨cc, 0, none⟩ = false := frozen_of_row w cc 0 _ _ hc
  have c2 : w.cell? ⟨mm, 0, none⟩ = some (.int .i64 m) := by rw [cell_of_row w mm 0 _ _ _ hm]; rfl
  have c2' : (w.setCell ⟨cc, 0, none⟩ (.int .i64 (c + 1))).cell? ⟨mm, 0, none⟩ = some (.int .i64 m) := by
    rw [World.cell?_setCell_other _ _ _ _ (fun e => hne (by cases e; rfl)), c2]
  have a1 := assert23_3
  have a2 := assert24_3
  have a3 := assert3_3
  clear hc hb hm
  go_enter Ybad.func5, Ybad.ntmps5
  go_wp2
  go_ret
  exact ⟨rfl, rfl⟩

/-- The function value that the law hands over. -/
def fnv (cc bb mm : Nat) : Value := .func (.func 5) #[] #[.pointer (some ⟨cc, 0, none⟩), .pointer (some ⟨bb, 0, none⟩), .pointer (some ⟨mm, 0, none⟩)]

/-- What anywhere is to be shown to do at depth n. -/
def AnyAt (f : Value) (cc bb mm : Nat) (m : Int) (n : Nat) : Prop := ∀ (v : Value) (L : List Int) (c : Int) (w : World), Leafy 0 w n v L → Env cc bb mm c m w → 0 ≤ c → c + L.length ≤ 1000000 →
  Calls Ybad.prog 6 #[v, f] w fun e w' => ∃ r c', e = .returned (.bool r) ∧ Ans m L c c' r ∧ Env cc bb mm c' m w' ∧ w.grownBy w' (some cc)

set_option maxHeartbeats 400000 in
/-- anywhere at a leaf. -/
theorem any_leaf (cc bb mm : Nat) (c m x : Int) (w : World) (hE : Env cc bb mm c m w) (h0 : 0 ≤ c) (h1 : c + 1 ≤ 1000000) (m0 : 2 ≤ m) (m1 : m ≤ 6) (hx : In64 x) :
    Calls Ybad.prog 6 #[.iface 3 (.int .i64 x), fnv cc bb mm] w fun e w' => ∃ r c', e = .returned (.bool r) ∧ Ans m [x] c c' r ∧ Env cc bb mm c' m w' ∧ w.grownBy w' (some cc) := by
  have HE : Hid (Env cc bb mm c m w) := hE
  have HX : Hid (In64 x) := hx
  clear hE hx
  have a1 := assert23_3
  have a2 := assert24_3
  unfold fnv
  go_enter Ybad.func6, Ybad.ntmps6
  go_wp2_with fail
  refine (test_any cc bb mm c m x _ HE.out h0 (by omega) m0 m1 HX.out).mono ?_
  rintro e w1 ⟨rfl, rfl⟩
  go_wp2_with fail
  go_ret
  refine ⟨hitB m x, c + 1, rfl, ⟨by simp, fun _ => by simp, fun _ => by simp⟩, env_store HE.out _, grownBy_setCell _ _ _⟩

/-- Of the first k elements none passed; so many leaves they have. -/
def Before (m : Int) (Ls : List (List Int)) (k : Nat) (c ck : Int) : Prop :=
  ck = c + ((Ls.take k).flatten.length : Nat) ∧ (Ls.take k).flatten.any (hitB m) = false

theorem take_flatten_succ (Ls : List (List Int)) (k : Nat) (hk : k < Ls.length) : (Ls.take (k + 1)).flatten = (Ls.take k).flatten ++ Ls.getD k [] := by
  have e : Ls.getD k [] = Ls[k] := by simp [List.getD, List.getElem?_eq_getElem hk]
  rw [e, List.take_succ_eq_append_getElem hk, List.flatten_append]
  simp only [List.flatten_cons, List.flatten_nil, List.append_nil]

theorem take_flatten_le (Ls : List (List Int)) (k : Nat) (hk : k < Ls.length) : (Ls.take k).flatten.length + (Ls.getD k []).length ≤ Ls.flatten.length := by
  have h1 := take_flatten_succ Ls k hk
  have h2 : Ls.flatten = (Ls.take (k + 1)).flatten ++ (Ls.drop (k + 1)).flatten := by rw [← List.flatten_append, List.take_append_drop]
  rw [h2, h1]; simp

theorem before_step {m : Int} {Ls : List (List Int)} {k : Nat} {c ck c' : Int} (hk : k < Ls.length) (h : Before m Ls k c ck) (ha : Ans m (Ls.getD k []) ck c' false) : Before m Ls (k + 1) c c' := by
  obtain ⟨h1, h2⟩ := h
  obtain ⟨a1, a2, _⟩ := ha
  refine ⟨?_, ?_⟩
  · rw [a2 rfl, h1, take_flatten_succ Ls k hk]; simp; omega
  · rw [take_flatten_succ Ls k hk, List.any_append, h2, ← a1]; rfl

theorem before_hit {m : Int} {Ls : List (List Int)} {k : Nat} {c ck c' : Int} (hk : k < Ls.length) (h : Before m Ls k c ck) (ha : Ans m (Ls.getD k []) ck c' true) : Ans m Ls.flatten c c' true := by
  obtain ⟨h1, h2⟩ := h
  obtain ⟨a1, _, a3⟩ := ha
  have h3 := take_flatten_le Ls k hk
  have h4 := a3 rfl
  refine ⟨?_, (fun h => by cases h), fun _ => ⟨by omega, by omega⟩⟩
  have e : Ls.flatten = (Ls.take (k + 1)).flatten ++ (Ls.drop (k + 1)).flatten := by rw [← List.flatten_append, List.take_append_drop]
  rw [e, take_flatten_succ Ls k hk, List.any_append, List.any_append, ← a1]; simp

theorem before_all {m : Int} {Ls : List (List Int)} {k : Nat} {c ck : Int} (hk : Ls.length ≤ k) (h : Before m Ls k c ck) : Ans m Ls.flatten c ck false := by
  obtain ⟨h1, h2⟩ := h
  rw [List.take_of_length_le hk] at h1 h2
  exact ⟨h2.symm, fun _ => h1, fun h => by cases h⟩

set_option maxHeartbeats 1000000 in
/-- anywhere at a slice. -/
theorem any_slice (f : Value) (cc bb mm : Nat) (c m : Int) (n B cap : Nat) (C : Array Value) (Ls : List (List Int)) (w : World) (ih : AnyAt f cc bb mm m n)
    (hE : Env cc bb mm c m w) (h0 : 0 ≤ c) (h1 : c + Ls.flatten.length ≤ 1000000) (hlen : Ls.length ≤ 1000000) (hB : w.heap[B]? = some (.cells C 20 (0, 0)))
    (hi : ∀ i, i < Ls.length → ∃ u, C[i]? = some u ∧ Leafy 0 w n u (Ls.getD i [])) :
    Calls Ybad.prog 6 #[.iface 23 (.slice (some ⟨B, 0, none⟩) Ls.length cap), f] w fun e w' =>
      ∃ r c', e = .returned (.bool r) ∧ Ans m Ls.flatten c c' r ∧ Env cc bb mm c' m w' ∧ w.grownBy w' (some cc) := by
  have IH : Hid (AnyAt f cc bb mm m n) := ih
  have HE : Hid (Env cc bb mm c m w) := hE
  have HI : Hid (∀ i, i < Ls.length → ∃ u, C[i]? = some u ∧ Leafy 0 w n u (Ls.getD i [])) := hi
  have HB : Hid (w.heap[B]? = some (.cells C 20 (0, 0))) := hB
  have HL : Hid (c + Ls.flatten.length ≤ 1000000) := h1
  clear ih hE hi hB h1
  have a1 := assert23_23
  generalize hN : Ls.length = N at hlen
  have HN : Hid (Ls.length = N) := hN
  clear hN
  go_enter Ybad.func6, Ybad.ntmps6
  go_wp2_with fail
  go_loopw [17] (fun i wr => ∃ (k : Nat) (ck : Int), k ≤ N ∧ i = .int .i64 k ∧ Before m Ls k c ck ∧ Env cc bb mm ck m wr ∧ w.grownBy wr (some cc)) (fun i _ => N - (intOf i).toNat)
  case atStart => exact ⟨0, c, Nat.zero_le _, rfl, ⟨by simp, by simp⟩, HE.out, grownBy_refl _ _⟩
  case round =>
    obtain ⟨k, ck, hk, rfl, hbf, hEr, hgr⟩ := hrel
    by_cases hlt : k < N
    · have hkL : k < Ls.length := by rw [HN.out]; exact hlt
      obtain ⟨u, hu, hlu⟩ := HI.out k hkL
      have hcc := HE.out.1
      have hBne : some B ≠ some cc := fun e => by cases e; have := HB.out; rw [this] at hcc; simp at hcc
      have hBr : wr.heap[B]? = some (.cells C 20 (0, 0)) := by rw [hgr.block B (Array.getElem?_eq_some_iff.1 HB.out).1 hBne, HB.out]
      have cu : wr.cell? ⟨B, k, none⟩ = some u := by rw [cell_of_row wr B k _ _ _ hBr, hu]
      have hlt' : (k : Int) < N := by omega
      have HT : Hid (Leafy 0 wr n u (Ls.getD k [])) := leafy_kept hgr hcc n _ _ hlu
      have HR : Hid (Before m Ls k c ck ∧ Env cc bb mm ck m wr ∧ w.grownBy wr (some cc)) := ⟨hbf, hEr, hgr⟩
      clear hbf hEr hgr hBr hcc hu hlu hBne
      go_wp2_with fail
      have hle := take_flatten_le Ls k hkL
      have hck : ck = c + ((Ls.take k).flatten.length : Nat) := HR.out.1.1
      have hL := HL.out
      refine (IH.out u _ ck wr HT.out HR.out.2.1 (by omega) (by omega)).mono ?_
      rintro e w1 ⟨r, c', rfl, hans, hE1, hg1⟩
      have HA : Hid (Ans m (Ls.getD k []) ck c' r ∧ Env cc bb mm c' m w1 ∧ wr.grownBy w1 (some cc)) := ⟨hans, hE1, hg1⟩
      clear hans hE1 hg1 hle hck hL
      cases r
      · go_wp2_with fail
        go_roundw
        case rel => exact ⟨k + 1, c', by omega, by go_num, before_step hkL HR.out.1 HA.out.1, HA.out.2.1, grownBy_trans HR.out.2.2 HA.out.2.2⟩
        case measure => simp [intOf]; omega
      · go_wp2_with fail
        go_ret
        exact ⟨true, c', rfl, before_hit hkL HR.out.1 HA.out.1, HA.out.2.1, grownBy_trans HR.out.2.2 HA.out.2.2⟩
    · have HR : Hid (Before m Ls k c ck ∧ Env cc bb mm ck m wr ∧ w.grownBy wr (some cc)) := ⟨hbf, hEr, hgr⟩
      clear hbf hEr hgr
      go_wp2_with fail
      go_ret
      exact ⟨false, ck, rfl, before_all (by rw [HN.out]; omega) HR.out.1, HR.out.2.1, HR.out.2.2⟩

/-! ### anywhere at a map -/
/-- The loop over a map under way: the iterator at r has handed out 'seen'; none of those passed. -/
def Ranged (m : Int) (es : Array MapEntry) (clock : Nat) (F : MapEntry → List Int) (b r : Nat) (seen : Array Nat) (c ck : Int) (wr : World) : Prop :=
  (∃ c0, clock ≤ c0 ∧ wr.heap[r]? = some (.mapIter (some b) clock seen c0)) ∧ wr.heap[b]? = some (.map es clock) ∧
  ck + toCome es.toList F seen = c + (es.toList.flatMap F).length ∧ ∀ x ∈ es.toList, seen.contains x.born = true → (F x).any (hitB m) = false

theorem flatMap_part {es : List MapEntry} {F : MapEntry → List Int} {seen : Array Nat} {e : MapEntry} (hn : (es.map (·.born)).Nodup) (he : e ∈ es) (hs : seen.contains e.born = false) : (F e).length ≤ toCome es F seen := by
  rw [toCome_push es F seen e hn he hs]; omega

theorem ranged_step {m : Int} {es : Array MapEntry} {clock : Nat} {F : MapEntry → List Int} {b r : Nat} {seen : Array Nat} {c ck c' : Int} {wr w2 : World} {e : MapEntry}
    (hst : Stamps es clock) (hR : Ranged m es clock F b r seen c ck wr) (he : e ∈ es.toList) (hs : seen.contains e.born = false)
    (h1 : w2.heap[r]? = some (.mapIter (some b) clock (seen.push e.born) clock)) (h2 : w2.heap[b]? = some (.map es clock)) (ha : Ans m (F e) ck c' false) :
    Ranged m es clock F b r (seen.push e.born) c c' w2 := by
  obtain ⟨_, _, h3, h4⟩ := hR
  obtain ⟨a1, a2, _⟩ := ha
  refine ⟨⟨clock, Nat.le_refl _, h1⟩, h2, ?_, fun x hx hc => ?_⟩
  · have := toCome_push es.toList F seen e hst.2 he hs
    rw [a2 rfl]; omega
  · rw [Array.contains_push] at hc
    by_cases hx' : seen.contains x.born = true
    · exact h4 x hx hx'
    · have hb : x.born = e.born := by
        have hf : seen.contains x.born = false := by simpa using hx'
        rw [hf] at hc; simpa using hc
      have : x = e := by
        have hnd := hst.2
        exact (born_inj hnd hx he hb)
      rw [this, ← a1]

theorem ranged_hit {m : Int} {es : Array MapEntry} {clock : Nat} {F : MapEntry → List Int} {b r : Nat} {seen : Array Nat} {c ck c' : Int} {wr : World} {e : MapEntry}
    (hst : Stamps es clock) (hR : Ranged m es clock F b r seen c ck wr) (hc : c ≤ ck) (he : e ∈ es.toList) (hs : seen.contains e.born = false) (ha : Ans m (F e) ck c' true) :
    Ans m (es.toList.flatMap F) c c' true := by
  obtain ⟨_, _, h3, _⟩ := hR
  obtain ⟨a1, _, a3⟩ := ha
  have h4 := a3 rfl
  have h5 := flatMap_part (F := F) hst.2 he hs
  refine ⟨?_, (fun h => by cases h), fun _ => ⟨by omega, by omega⟩⟩
  symm
  rw [List.any_flatMap]
  exact List.any_eq_true.2 ⟨e, he, by rw [← a1]⟩

theorem ranged_all {m : Int} {es : Array MapEntry} {clock : Nat} {F : MapEntry → List Int} {b r : Nat} {seen : Array Nat} {c ck : Int} {wr : World}
    (hR : Ranged m es clock F b r seen c ck wr) (h0 : (leftOf es seen).size = 0) : Ans m (es.toList.flatMap F) c ck false := by
  obtain ⟨_, _, h3, h4⟩ := hR
  have hall := all_seen es seen h0
  rw [toCome_none _ _ _ hall] at h3
  refine ⟨?_, fun _ => by omega, fun h => by cases h⟩
  symm
  rw [List.any_flatMap]
  exact List.any_eq_false.2 (fun x hx => by rw [h4 x hx (hall x hx)]; simp)
end Go.Proofs.YbulkawdiDoor
