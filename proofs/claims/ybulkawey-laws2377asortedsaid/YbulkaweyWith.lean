import Derived.Test.YbulkaweyFirst
namespace Go.Proofs.Ybulkawey
open Go.RowKit
set_option linter.unusedVariables false

theorem ba_ext {s t : ByteArray} (h : s.data.toList = t.data.toList) : s = t := by
  obtain ⟨s⟩ := s; obtain ⟨t⟩ := t
  exact congrArg ByteArray.mk (Array.toList_inj.1 h)

/-- Numbers as the model's ints hold them, and a value that a string can be. -/
def App.fits (a : App) : Prop := -9223372036854775808 ≤ a.call ∧ a.call ≤ 9223372036854775807 ∧ -9223372036854775808 ≤ a.ret ∧ a.ret ≤ 9223372036854775807 ∧ a.val.size ≤ 140737488355328

/-- What encode writes, as a list. -/
def encL (a : App) : List UInt8 := hd a ++ a.val.data.toList
theorem encB_list (a : App) : (encB a).data.toList = encL a := by simp [encB, encL]
theorem encL_length (a : App) (h : a.fits) : (encL a).length ≤ a.val.size + 30 := by
  have := hd_length a (by have := h.2.2.2.2; omega)
  simp only [encL, List.length_append, Array.length_toList]
  show (hd a).length + a.val.size ≤ _
  omega
theorem encL_pos (a : App) : 1 ≤ (encL a).length := by
  have := Lib.uvarint_pos (u64 a.call)
  simp only [encL, hd, List.length_append]; omega
/-- A list of appends, each as encode writes it. -/
def flat (S : List App) : List UInt8 := S.flatMap encL
theorem flat_cons (a : App) (S : List App) : flat (a :: S) = encL a ++ flat S := by simp [flat]
theorem flat_append (S T : List App) : flat (S ++ T) = flat S ++ flat T := by simp [flat]

theorem call_back {x : Int} (h1 : -9223372036854775808 ≤ x) (h2 : x ≤ 9223372036854775807) : IntKind.i64.wrap (u64 x : Int) = x := by
  rw [IntKind.wrap_i64, u64]; omega
theorem ret_back {x : Int} (h1 : -9223372036854775808 ≤ x) (h2 : x ≤ 9223372036854775807) : IntKind.i64.wrap (IntKind.i64.wrap (u64 (IntKind.i64.wrap (x + 1)) : Int) - 1) = x := by
  rw [IntKind.wrap_i64, IntKind.wrap_i64, IntKind.wrap_i64, u64]; omega

/-- first reads back what encode wrote. -/
theorem first_enc (a : App) (ha : a.fits) (r : List UInt8) (s : ByteArray) (hs : s.data.toList = encL a ++ r) (hsz : s.size ≤ 4611686018427387904) (w : World) :
    Calls Yba.prog 16 #[.string s] w fun e w' => e = .returned (.tuple #[.agg #[.int .i64 a.call, .int .i64 a.ret, .string a.val], .string ⟨r.toArray⟩]) ∧ Kp w w' := by
  obtain ⟨h1, h2, h3, h4, h5⟩ := ha
  refine (first_any (fun i => if i = 0 then u64 a.call else if i = 1 then u64 (IntKind.i64.wrap (a.ret + 1)) else a.val.size)
    (fun i => if i = 0 then encL a ++ r else if i = 1 then Lib.uvarint (u64 (IntKind.i64.wrap (a.ret + 1))) ++ (Lib.uvarint a.val.size ++ (a.val.data.toList ++ r)) else if i = 2 then Lib.uvarint a.val.size ++ (a.val.data.toList ++ r) else a.val.data.toList ++ r) ?_ ?_ ?_ s hs hsz w).mono ?_
  · intro i hi
    have := u64_lt a.call
    have := u64_lt (IntKind.i64.wrap (a.ret + 1))
    show (if i = 0 then u64 a.call else if i = 1 then u64 (IntKind.i64.wrap (a.ret + 1)) else a.val.size) < _
    split
    · assumption
    · split
      · assumption
      · omega
  · intro i hi
    have : i = 0 ∨ i = 1 ∨ i = 2 := by omega
    rcases this with rfl | rfl | rfl
    · simp [encL, hd, List.append_assoc]
    · simp
    · simp
  · show a.val.size ≤ (a.val.data.toList ++ r).length
    rw [List.length_append, Array.length_toList]
    show a.val.size ≤ a.val.size + _
    omega
  · rintro e w' ⟨⟨t, ht, rfl⟩, hk⟩
    refine ⟨?_, hk⟩
    have ht' : t.data.toList = a.val.data.toList ++ r := by simpa using ht
    have e1 : t.extract 0 a.val.size = a.val := ba_ext (by rw [extract_to, ht', List.take_left' (by rw [Array.length_toList]; rfl)])
    have e2 : t.extract a.val.size t.size = ⟨r.toArray⟩ := ba_ext (by rw [extract_from, ht', List.drop_left' (by rw [Array.length_toList]; rfl)])
    simp only [Nat.reduceEqDiff, if_true, if_false, show ((1:Nat) = 0) = False by simp, show ((2:Nat) = 0) = False by simp, show ((2:Nat) = 1) = False by simp]
    rw [call_back h1 h2, ret_back h3 h4, e1, e2]

set_option maxRecDepth 100000 in
set_option maxHeartbeats 4000000 in
/-- with. -/
theorem with_any (a : App) (ha : a.fits) (S : List App) (hS : ∀ x ∈ S, App.fits x) (u : ByteArray) (hu : u.data.toList = flat S) (hsz : u.size ≤ 2305843009213693952) (w : World) :
    Calls Yba.prog 7 #[.string u, .agg #[.int .i64 a.call, .int .i64 a.ret, .string a.val]] w fun e w' =>
      (∃ (S1 S2 : List App) (v : ByteArray), S = S1 ++ S2 ∧ (∀ x ∈ S1, x.call ≤ a.call) ∧ (∀ x, S2.head? = some x → a.call < x.call) ∧ v.data.toList = flat (S1 ++ a :: S2) ∧ e = .returned (.string v)) ∧ Kp w w' := by
  have HS : Hid (a.fits ∧ (∀ x ∈ S, App.fits x) ∧ u.data.toList = flat S) := ⟨ha, hS, hu⟩
  clear ha hS hu
  go_enter Yba.func7, Yba.ntmps7
  go_wp2_with fail
  generalize hW : World.alloc _ _ = W
  have HW : Hid (Kp w W ∧ W.cell? ⟨w.heap.size, 0, none⟩ = some (.int .i64 a.call) ∧ W.cell? ⟨w.heap.size, 1, none⟩ = some (.int .i64 a.ret) ∧ W.cell? ⟨w.heap.size, 2, none⟩ = some (.string a.val) ∧ w.heap.size < W.heap.size) := by
    subst hW
    refine ⟨(Kp.refl w).alloc _, by simp, by simp, by simp, ?_⟩
    show _ < (w.heap.push _).size
    simp
  clear hW
  obtain ⟨A, hA⟩ : ∃ A, w.heap.size = A := ⟨_, rfl⟩
  rw [hA] at HW
  simp only [hA]
  clear hA
  go_loopw [5] (fun r' wr => ∃ (S1 S2 : List App) (t : ByteArray), S = S1 ++ S2 ∧ (∀ x ∈ S1, x.call ≤ a.call) ∧ r' = .string t ∧ t.data.toList = flat S2 ∧ t.size ≤ u.size ∧ Kp W wr) (fun r _ => match r with | .string t => t.size | _ => 0)
  case atStart => exact ⟨[], S, u, rfl, fun x h => by simp at h, rfl, HS.out.2.2, Nat.le_refl _, Kp.refl _⟩
  case round =>
    obtain ⟨S1, S2, t, hSS, hS1, rfl, ht, htu, hk⟩ := hrel
    have HI : Hid (S = S1 ++ S2 ∧ (∀ x ∈ S1, x.call ≤ a.call) ∧ t.data.toList = flat S2 ∧ Kp W wr) := ⟨hSS, hS1, ht, hk⟩
    clear hSS hS1 ht hk
    have a0 := (HI.out.2.2.2.cell (o := 0) HW.out.2.2.2.2).trans HW.out.2.1
    have a1 := (HI.out.2.2.2.cell (o := 1) HW.out.2.2.2.2).trans HW.out.2.2.1
    have a2 := (HI.out.2.2.2.cell (o := 2) HW.out.2.2.2.2).trans HW.out.2.2.2.1
    have mx := mixed
    have hav := HS.out.1.2.2.2.2
    have hlenu : u.size = (flat S).length := by rw [← HS.out.2.2, Array.length_toList]; rfl
    have hlent : t.size = (flat S2).length := by rw [← HI.out.2.2.1, Array.length_toList]; rfl
    have hea : (encB a).size ≤ 140737488355328 + 30 := by
      have := encL_length a HS.out.1
      rw [← encB_list, Array.length_toList] at this
      exact Nat.le_trans this (by omega)
    have FIN : Hid (∀ v, v = u.extract 0 (u.size - t.size) ++ encB a ++ t → v.data.toList = flat (S1 ++ a :: S2)) := by
      intro v hv
      subst hv
      have h1 := HS.out.2.2
      rw [HI.out.1, flat_append] at h1
      have h2 : u.size - t.size = (flat S1).length := by
        rw [hlenu, hlent, HI.out.1, flat_append, List.length_append]; omega
      rw [ByteArray.data_append, ByteArray.data_append, Array.toList_append, Array.toList_append, extract_to, h1, h2, List.take_left, encB_list, HI.out.2.2.1, flat_append, flat_cons, List.append_assoc]
    clear hlenu hlent
    have hsub : (u.size : Int) - t.size = ((u.size - t.size : Nat) : Int) := by omega
    have hle : ((u.size - t.size : Nat) : Int) ≤ u.size := by omega
    have hex : (u.extract 0 (u.size - t.size)).size ≤ u.size := by
      show (u.extract 0 (u.size - t.size)).data.size ≤ _
      rw [← Array.length_toList, extract_to, List.length_take, Array.length_toList]
      show min _ u.size ≤ _
      omega
    have hadd1 : ∀ w, Sem.run Yba.prog (Op.stringOp .add (u.extract 0 (u.size - t.size)) (encB a)) w = .ok (.string (u.extract 0 (u.size - t.size) ++ encB a)) w := fun w => run_string_add_sum (P := Yba.prog) w _ _ (by omega)
    have hex2 : (u.extract 0 (u.size - t.size) ++ encB a).size ≤ u.size + 140737488355328 + 30 := by rw [ByteArray.size_append]; omega
    have hadd2 : ∀ w, Sem.run Yba.prog (Op.stringOp .add (u.extract 0 (u.size - t.size) ++ encB a) t) w = .ok (.string (u.extract 0 (u.size - t.size) ++ encB a ++ t)) w := fun w => run_string_add_sum (P := Yba.prog) w _ _ (by omega)
    obtain ⟨K, hK⟩ : ∃ K, u.size - t.size = K := ⟨_, rfl⟩
    rw [hK] at FIN hsub hle hex hadd1 hadd2 hex2
    have HKK : Hid (u.size - t.size = K) := hK
    clear hK
    cases S2 with
    | nil =>
      obtain rfl : t = ⟨#[]⟩ := ba_ext HI.out.2.2.1
      have eK : K = u.size := by
        have := HKK.out
        have e0 : (⟨#[]⟩ : ByteArray).size = 0 := rfl
        omega
      subst eK
      go_wp2_with fail
      go_region_with (go_at_call 17; refine (encode_any a _ hav).mono ?_; rintro e w1 ⟨rfl, hk1⟩)
      go_wp2_with fail
      go_ret
      refine ⟨⟨S1, [], _, HI.out.1, HI.out.2.1, fun x h => by simp at h, ?_, rfl⟩, (HW.out.1.trans HI.out.2.2.2).drew.trans hk1⟩
      refine FIN.out _ ?_
      refine ba_ext ?_
      simp [ByteArray.data_append, Array.toList_append]
    | cons b S2 =>
      have hne : ¬ t = ⟨#[]⟩ := fun e => by
        have h1 := HI.out.2.2.1
        have h2 := encL_pos b
        rw [e, flat_cons] at h1
        have := congrArg List.length h1
        simp at this
        omega
      have hne2 : t.toList.isEmpty = false := by rw [← decide_eq_emptyBytes]; exact decide_eq_false hne
      go_wp2_with fail
      refine (first_enc b (HS.out.2.1 b (by rw [HI.out.1]; simp)) (flat S2) t (by rw [HI.out.2.2.1, flat_cons]) (by omega) _).mono ?_
      rintro e w1 ⟨rfl, hk1⟩
      have HK1 : Hid (Kp W w1) := HI.out.2.2.2.trans hk1
      clear hk1 a0 a1 a2
      have a0 := (HK1.out.cell (o := 0) HW.out.2.2.2.2).trans HW.out.2.1
      have hAw : A < w1.heap.size := Nat.lt_of_lt_of_le HW.out.2.2.2.2 HK1.out.size
      have hAw' : A ≠ w1.heap.size := by omega
      by_cases hc : a.call < b.call
      · go_wp2_with fail
        have hkq : Kp W (w1.alloc (.cells #[.int .i64 b.call, .int .i64 b.ret, .string b.val] 27)) := HK1.out.alloc _
        clear a0
        generalize w1.alloc _ = wq at hkq ⊢
        have HKq : Hid (Kp W wq) := hkq
        clear hkq
        have a0 := (HKq.out.cell (o := 0) HW.out.2.2.2.2).trans HW.out.2.1
        have a1 := (HKq.out.cell (o := 1) HW.out.2.2.2.2).trans HW.out.2.2.1
        have a2 := (HKq.out.cell (o := 2) HW.out.2.2.2.2).trans HW.out.2.2.2.1
        go_region_with (go_at_call 17; refine (encode_any a _ hav).mono ?_; rintro e w2 ⟨rfl, hk2⟩)
        go_wp2_with fail
        go_ret
        exact ⟨⟨S1, b :: S2, _, HI.out.1, HI.out.2.1, fun x h => by simp at h; rw [← h]; exact hc, FIN.out _ rfl, rfl⟩, (HW.out.1.trans HKq.out).drew.trans hk2⟩
      · go_wp2_with fail
        have e1 : (⟨(flat S2).toArray⟩ : ByteArray).size + (encL b).length = t.size := by
          have h1 := congrArg List.length HI.out.2.2.1
          rw [flat_cons, List.length_append, Array.length_toList] at h1
          show (flat S2).toArray.size + _ = t.data.size
          rw [List.size_toArray]; omega
        have e2 := encL_pos b
        refine ⟨⟨S1 ++ [b], S2, _, ?_, ?_, rfl, rfl, by omega, HK1.out.alloc _⟩, ?_⟩
        · rw [HI.out.1]; simp
        · intro x hx
          rcases List.mem_append.1 hx with h | h
          · exact HI.out.2.1 x h
          · simp at h; subst h; omega
        · show (⟨(flat S2).toArray⟩ : ByteArray).size < t.size
          omega
end Go.Proofs.Ybulkawey
