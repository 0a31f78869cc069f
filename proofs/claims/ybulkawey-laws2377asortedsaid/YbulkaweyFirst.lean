import Derived.Test.YbulkaweyEnc
import Derived.Laws.ResultCell
namespace Go.Proofs.Ybulkawey
open Go.RowKit
set_option linter.unusedVariables false

/-! ### What Uvarint reads of what AppendUvarint wrote -/
theorem dec_from : ∀ (k i : Nat), i + k = 9 → ∀ (y acc : Nat) (r : List UInt8), y < 2 ^ (64 - 7 * i) → Lib.uvarintFrom i acc (Lib.uvarint y ++ r) = (acc + y * 2 ^ (7 * i), ((i + (Lib.uvarint y).length : Nat) : Int))
  | 0, i, hi, y, acc, r, hy => by
    obtain rfl : i = 9 := by omega
    have hy2 : y < 2 := by simpa using hy
    rw [Lib.uvarint_small (by omega)]
    have e : y.toUInt8.toNat = y := by simp [Nat.toUInt8]; omega
    simp only [List.cons_append, List.nil_append, Lib.uvarintFrom, e]
    rw [if_neg (by omega), if_pos (by omega), if_neg (by omega)]
    simp
  | k + 1, i, hi, y, acc, r, hy => by
    by_cases hs : y < 128
    · rw [Lib.uvarint_small hs]
      have e : y.toUInt8.toNat = y := by simp [Nat.toUInt8]; omega
      simp only [List.cons_append, List.nil_append, Lib.uvarintFrom, e]
      rw [if_neg (by omega), if_pos hs, if_neg (by omega)]
      simp
    · rw [Lib.uvarint_big (by omega)]
      have e : (y % 128 + 128).toUInt8.toNat = y % 128 + 128 := by simp [Nat.toUInt8]; omega
      simp only [List.cons_append, Lib.uvarintFrom, e]
      rw [if_neg (by omega), if_neg (by omega)]
      have hp : 2 ^ (64 - 7 * i) = 128 * 2 ^ (64 - 7 * (i + 1)) := by
        rw [show 64 - 7 * i = 7 + (64 - 7 * (i + 1)) by omega, Nat.pow_add]
      rw [dec_from k (i + 1) (by omega) (y / 128) _ r (Nat.div_lt_of_lt_mul (by rw [← hp]; exact hy))]
      have hq : 2 ^ (7 * (i + 1)) = 128 * 2 ^ (7 * i) := by
        rw [show 7 * (i + 1) = 7 + 7 * i by omega, Nat.pow_add]
      rw [hq, Nat.add_mod_right, Nat.mod_mod]
      refine Prod.ext ?_ ?_
      · show acc + y % 128 * 2 ^ (7 * i) + y / 128 * (128 * 2 ^ (7 * i)) = acc + y * 2 ^ (7 * i)
        rw [← Nat.mul_assoc, Nat.add_assoc, ← Nat.add_mul]
        congr 2
        omega
      · simp only [List.length_cons]
        congr 1
        omega
theorem dec_enc {x : Nat} (hx : x < 18446744073709551616) (r : List UInt8) : Lib.uvarintDec (Lib.uvarint x ++ r) = (x, ((Lib.uvarint x).length : Int)) := by
  rw [Lib.uvarintDec, dec_from 9 0 rfl x 0 r (by simpa using hx)]
  simp
theorem take_enc {x : Nat} (hx : x < 18446744073709551616) (r : List UInt8) : ∃ r', (Lib.uvarint x ++ r).take (min (Lib.uvarint x ++ r).length 10) = Lib.uvarint x ++ r' := by
  have h := Lib.uvarint_length64 hx
  rw [List.take_append, List.take_of_length_le (by simp only [List.length_append]; omega)]
  exact ⟨_, rfl⟩

theorem extract_list (t : ByteArray) (a b : Nat) : (t.extract a b).data.toList = (t.data.toList.take b).drop a := by
  rw [ByteArray.data_extract, Array.toList_extract, List.extract_eq_take_drop, List.drop_take]
theorem extract_to (t : ByteArray) (b : Nat) : (t.extract 0 b).data.toList = t.data.toList.take b := by rw [extract_list]; rfl
theorem extract_from (t : ByteArray) (a : Nat) : (t.extract a t.size).data.toList = t.data.toList.drop a := by
  rw [extract_list, List.take_of_length_le (by rw [Array.length_toList]; exact Nat.le_refl _)]

/-- The block of the three numbers that first reads, and the block of its result. -/
def Three (R F : Nat) (x : Nat → Nat) (i : Nat) (w : World) : Prop :=
  (∃ C : Array Value, w.heap[F]? = some (.cells C 58 (0, 0)) ∧ C.size = 3 ∧ ∀ j, j < i → C[j]? = some (.int .u64 (x j))) ∧ (∃ C : Array Value, w.heap[R]? = some (.cells C 27 (0, 0)) ∧ C.size = 3)
theorem Three.start (w : World) (x : Nat → Nat) (C D : Array Value) (h1 : C.size = 3) (h2 : D.size = 3) :
    Three w.heap.size (w.heap.size + 1) x 0 ((w.alloc (.cells C 27)).alloc (.cells D 58)) := by
  refine ⟨⟨D, ?_, h2, fun j hj => by omega⟩, ⟨C, ?_, h1⟩⟩
  · show ((w.heap.push _).push _)[w.heap.size + 1]? = _
    have e : w.heap.size + 1 = (w.heap.push (.cells C 27)).size := by simp
    rw [e, Array.getElem?_push_size]
  · show ((w.heap.push _).push _)[w.heap.size]? = _
    rw [Array.getElem?_push, if_neg (by simp), Array.getElem?_push_size]
theorem Three.kept {R F : Nat} {x : Nat → Nat} {i : Nat} {w w' : World} (h : Three R F x i w) (k : Kp w w') : Three R F x i w' := by
  obtain ⟨⟨C, c1, c2⟩, ⟨D, d1, d2⟩⟩ := h
  exact ⟨⟨C, by rw [k.block F (Array.getElem?_eq_some_iff.1 c1).1]; exact c1, c2⟩, ⟨D, by rw [k.block R (Array.getElem?_eq_some_iff.1 d1).1]; exact d1, d2⟩⟩
theorem Three.put {R F : Nat} {x : Nat → Nat} {i : Nat} {w : World} (h : Three R F x i w) (hi : i < 3) (hne : R ≠ F) : Three R F x (i + 1) (w.setCell ⟨F, i, none⟩ (.int .u64 (x i))) := by
  obtain ⟨⟨C, c1, c2, c3⟩, ⟨D, d1, d2⟩⟩ := h
  refine ⟨⟨_, heap_setCell_same w F i C 58 _ c1, by simp [c2], fun j hj => ?_⟩, ⟨D, (heap_setCell_other _ _ _ _ hne).trans d1, d2⟩⟩
  rw [Array.getElem?_setIfInBounds]
  by_cases e : i = j
  · subst e; rw [if_pos rfl, if_pos (by omega)]
  · rw [if_neg e]; exact c3 j (by omega)
theorem Three.here {R F : Nat} {x : Nat → Nat} {i : Nat} {w : World} (h : Three R F x i w) (j : Nat) (hj : j < 3) : ∃ v, w.cell? ⟨F, j, none⟩ = some v := by
  obtain ⟨⟨C, c1, c2, c3⟩, _⟩ := h
  rw [cell_of_row w F j C 58 (0,0) c1, Array.getElem?_eq_getElem (by omega)]; exact ⟨_, rfl⟩
theorem Three.open {R F : Nat} {x : Nat → Nat} {i : Nat} {w : World} (h : Three R F x i w) (o : Nat) : w.frozen? ⟨F, o, none⟩ = false := by
  obtain ⟨⟨C, c1, c2, c3⟩, _⟩ := h
  exact frozen_of_row w F o C 58 c1
theorem Three.res {R F : Nat} {x : Nat → Nat} {i : Nat} {w : World} (h : Three R F x i w) : (∃ a b c, w.cell? ⟨R, 0, none⟩ = some a ∧ w.cell? ⟨R, 1, none⟩ = some b ∧ w.cell? ⟨R, 2, none⟩ = some c) ∧ ∀ o, w.frozen? ⟨R, o, none⟩ = false := by
  obtain ⟨_, ⟨C, c1, c2⟩⟩ := h
  refine ⟨⟨C[0], C[1], C[2], ?_, ?_, ?_⟩, fun o => frozen_of_row w R o C 27 c1⟩ <;> rw [cell_of_row w R _ C 27 (0,0) c1, Array.getElem?_eq_getElem (by omega)]
theorem Three.at {R F : Nat} {x : Nat → Nat} {i : Nat} {w : World} (h : Three R F x i w) (j : Nat) (hj : j < i) : w.cell? ⟨F, j, none⟩ = some (.int .u64 (x j)) := by
  obtain ⟨⟨C, c1, c2, c3⟩, _⟩ := h
  rw [cell_of_row w F j C 58 (0,0) c1]; exact c3 j hj
theorem three_set (C : Array Value) (h : C.size = 3) (a b c : Value) : ((C.setIfInBounds 0 a).setIfInBounds 1 b).setIfInBounds 2 c = #[a, b, c] := by
  obtain ⟨l⟩ := C
  match l, h with
  | [p, q, r], _ => rfl
/-- The result that first hands back. -/
theorem first_result {R F : Nat} {x : Nat → Nat} {i : Nat} {w : World} (h : Three R F x i w) (a b c d : Value) (tmps : Array Value) (h2 : tmps.getD 2 undef = .pointer (some ⟨R, 0, none⟩)) (h3 : tmps.getD 3 undef = d) :
    (results Yba.f16 tmps).run Yba.prog (((w.setCell ⟨R, 0, none⟩ a).setCell ⟨R, 1, none⟩ b).setCell ⟨R, 2, none⟩ c).drew = .ok (.tuple #[.agg #[a, b, c], d]) (((w.setCell ⟨R, 0, none⟩ a).setCell ⟨R, 1, none⟩ b).setCell ⟨R, 2, none⟩ c).drew := by
  obtain ⟨_, ⟨C, c1, c2⟩⟩ := h
  have e1 := heap_setCell_same w R 0 C 27 a c1
  have e2 := heap_setCell_same _ R 1 _ 27 b e1
  have e3 := heap_setCell_same _ R 2 _ 27 c e2
  rw [three_set C c2] at e3
  have e4 : (((w.setCell ⟨R, 0, none⟩ a).setCell ⟨R, 1, none⟩ b).setCell ⟨R, 2, none⟩ c).drew.heap[R]? = some (.cells #[a, b, c] 27 (0, 0)) := e3
  generalize (((w.setCell ⟨R, 0, none⟩ a).setCell ⟨R, 1, none⟩ b).setCell ⟨R, 2, none⟩ c).drew = W at e4 ⊢
  rw [results_cell_tmp (p := 2) (u := 3) (ty := 27) rfl, h2, h3]
  have := run_loadVar_row (P := Yba.prog) W R 27 27 #[a, b, c] (0, 0) _ e4 Yba.underlying27 rfl (by kernel_rfl)
  simp [asAddr, this, Result.andThen]

set_option maxRecDepth 100000 in
set_option maxHeartbeats 4000000 in
/-- first, of three varints and what follows them. -/
theorem first_any (x : Nat → Nat) (tl : Nat → List UInt8) (hx : ∀ i, i < 3 → x i < 18446744073709551616) (htl : ∀ i, i < 3 → tl i = Lib.uvarint (x i) ++ tl (i + 1)) (hv : x 2 ≤ (tl 3).length)
    (s : ByteArray) (hs : s.data.toList = tl 0) (hsz : s.size ≤ 4611686018427387904) (w : World) :
    Calls Yba.prog 16 #[.string s] w fun e w' => (∃ t : ByteArray, t.data.toList = tl 3 ∧ e = .returned (.tuple #[.agg #[.int .i64 (IntKind.i64.wrap (x 0)), .int .i64 (IntKind.i64.wrap (IntKind.i64.wrap (x 1) - 1)), .string (t.extract 0 (x 2))], .string (t.extract (x 2) t.size)])) ∧ Kp w w' := by
  have HX : Hid ((∀ i, i < 3 → x i < 18446744073709551616) ∧ (∀ i, i < 3 → tl i = Lib.uvarint (x i) ++ tl (i + 1)) ∧ x 2 ≤ (tl 3).length ∧ s.data.toList = tl 0) := ⟨hx, htl, hv, hs⟩
  clear hx htl hv hs
  go_enter Yba.func16, Yba.ntmps16
  go_wp2_with fail
  generalize hW : World.alloc _ _ = W
  have HT : Hid (Three w.heap.size (w.heap.size + 1) x 0 W ∧ Kp w W) := by
    subst hW
    exact ⟨Three.start w x _ _ rfl rfl, ((Kp.refl w).alloc _).alloc _⟩
  clear hW
  obtain ⟨R, hR⟩ : ∃ R, w.heap.size = R := ⟨_, rfl⟩
  obtain ⟨F, hF⟩ : ∃ F, R + 1 = F := ⟨_, rfl⟩
  rw [hR, hF] at HT
  simp only [hR, hF]
  have HR : Hid (w.heap.size = R ∧ R + 1 = F) := ⟨hR, hF⟩
  clear hR hF
  go_loopw [0, 8] (fun s' i' wr => ∃ (i : Nat) (t : ByteArray), i ≤ 3 ∧ i' = .int .i64 i ∧ s' = .string t ∧ t.data.toList = tl i ∧ t.size ≤ s.size ∧ Three R F x i wr ∧ Kp w wr) (fun _ i _ => 3 - (intOf i).toNat)
  case atStart => exact ⟨0, s, by omega, rfl, rfl, HX.out.2.2.2, Nat.le_refl _, HT.out.1, HT.out.2⟩
  case round =>
    obtain ⟨i, t, hi, rfl, rfl, htl, ht, h3, hk⟩ := hrel
    have HI : Hid (t.data.toList = tl i ∧ Three R F x i wr ∧ Kp w wr) := ⟨htl, h3, hk⟩
    clear htl h3 hk
    by_cases hlt : i < 3
    · have hlt' : (i : Int) < 3 := by omega
      have hcv2 := fun w s => run_bytes_of_string (P := Yba.prog) w 9 61 5 s Yba.underlying9 Yba.underlying61 Yba.underlying5
      go_wp2_with fail
      refine (Yba.uvarint_read _ 0 _ _ (t.extract 0 (min (t.size : Int) 10).toNat).data.toList _ ?_ ?_).mono ?_
      · rw [extract_to, List.length_take, Array.length_toList]; rfl
      · intro j hj
        have hj' : j < (t.extract 0 (min (t.size : Int) 10).toNat).data.size := by simpa [Array.length_toList] using hj
        have h1 := World.cell?_alloc_mark wr (bytesRow (t.extract 0 (min (t.size : Int) 10).toNat) (grownCap wr (min (min (t.size : Int) 10).toNat t.size) 0 5)) 5 ((bytesRow (t.extract 0 (min (t.size : Int) 10).toNat) (grownCap wr (min (min (t.size : Int) 10).toNat t.size) 0 5)).size, (bytesRow (t.extract 0 (min (t.size : Int) 10).toNat) (grownCap wr (min (min (t.size : Int) 10).toNat t.size) 0 5)).size + 1) (0 + j)
        refine Eq.trans h1 ?_
        rw [Nat.zero_add, bytesRow_at _ _ _ hj', Array.getElem_toList]
      rintro e w1 ⟨rfl, rfl⟩
      have hdec : Lib.uvarintDec (t.extract 0 (min (t.size : Int) 10).toNat).data.toList = (x i, ((Lib.uvarint (x i)).length : Int)) := by
        have hlen : t.size = (tl i).length := by rw [← HI.out.1, Array.length_toList]; rfl
        rw [extract_to, HI.out.1, hlen, show (min ((tl i).length : Int) 10).toNat = min (tl i).length 10 by omega, HX.out.2.1 i hlt]
        obtain ⟨r', hr'⟩ := take_enc (HX.out.1 i hlt) (tl (i + 1))
        rw [hr', dec_enc (HX.out.1 i hlt)]
      obtain ⟨k, hk⟩ : ∃ k, (Lib.uvarint (x i)).length = k := ⟨_, rfl⟩
      have hkt : k ≤ t.size := by
        have hlen : t.size = (tl i).length := by rw [← HI.out.1, Array.length_toList]; rfl
        rw [hlen, HX.out.2.1 i hlt, List.length_append]; omega
      rw [hk] at hdec
      rw [hdec]
      have hkw : Kp wr (wr.alloc (.cells (bytesRow (t.extract 0 (min (t.size : Int) 10).toNat) (grownCap wr (min (min (t.size : Int) 10).toNat t.size) 0 5)) 5 ((bytesRow (t.extract 0 (min (t.size : Int) 10).toNat) (grownCap wr (min (min (t.size : Int) 10).toNat t.size) 0 5)).size, (bytesRow (t.extract 0 (min (t.size : Int) 10).toNat) (grownCap wr (min (min (t.size : Int) 10).toNat t.size) 0 5)).size + 1))).drew := ((Kp.refl wr).alloc _).drew
      generalize (wr.alloc _).drew = wq at hkw ⊢
      have HK : Hid (Three R F x i wq ∧ Kp w wq) := ⟨HI.out.2.1.kept hkw, HI.out.2.2.trans hkw⟩
      have HK2 : Hid ((Lib.uvarint (x i)).length = k) := hk
      clear hkw hdec hcv2 hk
      obtain ⟨v0, c0⟩ := HK.out.1.here i hlt
      have f0 := HK.out.1.open
      have hkt' : (k : Int) ≤ t.size := by omega
      have i0 : (i : Int) < 3 := by omega
      have i1 : (i : Int).toNat = i := by omega
      have mx := mixed
      go_wp2_with fail
      go_region
      go_wp2_with fail
      go_roundw
      case rel =>
        have hR := HR.out
        refine ⟨i + 1, t.extract k t.size, by omega, by go_num, by first | rfl | simp, ?_, ?_, ?_, ?_⟩
        · rw [extract_from, HI.out.1, HX.out.2.1 i hlt, ← HK2.out, List.drop_left]
        · have : (t.extract k t.size).size ≤ t.size := by
            show (t.extract k t.size).data.size ≤ _
            rw [← Array.length_toList, extract_from, List.length_drop, Array.length_toList]
            show t.size - k ≤ t.size
            omega
          omega
        · exact (HK.out.1.put hlt (by omega)).kept ((Kp.refl _).drew)
        · exact (HK.out.2.set (by omega) _ _).drew
      case measure => simp [intOf]; omega
    · obtain rfl : i = 3 := by omega
      have a0 := HI.out.2.1.at 0 (by omega)
      have a1 := HI.out.2.1.at 1 (by omega)
      have a2 := HI.out.2.1.at 2 (by omega)
      obtain ⟨⟨r0, r1, r2, b0, b1, b2⟩, fr⟩ := HI.out.2.1.res
      have mx := mixed
      have hx2 : x 2 ≤ t.size := by
        have hlen : t.size = (tl 3).length := by rw [← HI.out.1, Array.length_toList]; rfl
        rw [hlen]; exact HX.out.2.2.1
      have hx2' : ((x 2 : Nat) : Int) ≤ t.size := by omega
      obtain ⟨X0, e0⟩ : ∃ X, x 0 = X := ⟨_, rfl⟩
      obtain ⟨X1, e1⟩ : ∃ X, x 1 = X := ⟨_, rfl⟩
      obtain ⟨X2, e2⟩ : ∃ X, x 2 = X := ⟨_, rfl⟩
      rw [e0] at a0
      rw [e1] at a1
      rw [e2] at a2 hx2 hx2'
      have HE : Hid (x 0 = X0 ∧ x 1 = X1 ∧ x 2 = X2) := ⟨e0, e1, e2⟩
      clear e0 e1 e2
      have hne : F ≠ R := by have := HR.out; omega
      have hne' : R ≠ F := by have := HR.out; omega
      have hx2w : IntKind.i64.wrap ((t.size : Nat) : Int) = t.size := by rw [IntKind.wrap_i64]; omega
      go_wp2_with fail
      go_region
      all_goals go_wp2_with fail
      refine bodyPost_ret (first_result HI.out.2.1 _ _ _ _ _ rfl rfl) rfl ?_
      obtain ⟨e0, e1, e2⟩ := HE.out
      refine ⟨⟨t, HI.out.1, ?_⟩, ((HI.out.2.2.set (by have := HR.out; omega) _ _).set (by have := HR.out; omega) _ _).set (by have := HR.out; omega) _ _ |>.drew⟩
      rw [e0, e1, e2, IntWalk.i64_left, IntWalk.i64_left, IntWalk.i64_left]
      rfl
end Go.Proofs.Ybulkawey
