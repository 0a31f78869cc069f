import Derived.Test.YbulkaweySortInsert
import Derived.Test.YbulkaweyShelf
import Derived.Deep.RegionWith
import Derived.Laws.IdiomStrings
namespace Go.Proofs.Ybulkawey
open Go.RowKit
set_option linter.unusedVariables false

/-- Nothing of what was there has turned. -/
structure Kp (w w' : World) : Prop where
  os : w'.os = w.os
  output : w'.output = w.output
  size : w.heap.size ≤ w'.heap.size
  block : ∀ k, k < w.heap.size → w'.heap[k]? = w.heap[k]?
theorem Kp.refl (w : World) : Kp w w := ⟨rfl, rfl, Nat.le_refl _, fun _ _ => rfl⟩
theorem Kp.trans {a b c : World} (h : Kp a b) (k : Kp b c) : Kp a c :=
  ⟨k.os.trans h.os, k.output.trans h.output, Nat.le_trans h.size k.size, fun i hi => (k.block i (Nat.lt_of_lt_of_le hi h.size)).trans (h.block i hi)⟩
theorem Kp.grown {a b c : World} (h : Kp a b) {row : Option Nat} (k : b.grownBy c row) (hr : ∀ g, row = some g → a.heap.size ≤ g) : Kp a c :=
  ⟨k.os.trans h.os, k.output.trans h.output, Nat.le_trans h.size k.size, fun i hi => (k.block i (Nat.lt_of_lt_of_le hi h.size) (fun e => by have := hr i e.symm; omega)).trans (h.block i hi)⟩
theorem Kp.alloc {a b : World} (h : Kp a b) (o : Obj) : Kp a (b.alloc o) := h.grown (World.grownBy_alloc b o none) (fun g e => by cases e)
theorem Kp.drew {a b : World} (h : Kp a b) : Kp a b.drew := ⟨h.os, h.output, h.size, h.block⟩
theorem Kp.set {a b : World} (h : Kp a b) {g : Nat} (hg : a.heap.size ≤ g) (o : Nat) (v : Value) : Kp a (b.setCell ⟨g, o, none⟩ v) :=
  h.grown (grownBy_set (grownBy_refl b (some g)) o v) (fun g' e => by cases e; exact hg)
theorem Kp.cell {a b : World} (h : Kp a b) {g o : Nat} (hg : g < a.heap.size) : b.cell? ⟨g, o, none⟩ = a.cell? ⟨g, o, none⟩ := World.cell?_of_block (h.block g hg)

theorem kept_block {W w : World} {may : MemPlace → Prop} (h : W.keptBut w may) {i : Nat} (hi : i < W.heap.size) (hn : ∀ p, may p → p.block ≠ i) : w.heap[i]? = W.heap[i]? := by
  have := h.2.2 i hi
  split at this
  · rename_i c t fr c' t' fr' e1 e2
    obtain ⟨rfl, rfl, hs, hj⟩ := this
    rw [e1, e2]
    congr 2
    refine Array.ext hs fun j j1 j2 => ?_
    have := hj j (fun hm => hn _ hm rfl)
    rw [Array.getElem?_eq_getElem j1, Array.getElem?_eq_getElem j2] at this
    exact Option.some.inj this
  · rename_i es clock es' clock' e1 e2
    rcases this with hm | ⟨rfl, rfl⟩
    · exact absurd rfl (hn _ hm)
    · rw [e1, e2]
  · exact this

theorem Kp.onto {a W w : World} (h : Kp a W) {H : Nat} (hH : a.heap.size ≤ H) {e : TypeId} {size : Nat} {ao : Option Addr} {off len cap : Nat} {olds : List Value} {v : Value} {m : Nat} {ks : List Value}
    (ho : Onto W e size ao H off len cap olds w v m ks) : Kp a w :=
  ⟨ho.kept.1.trans h.os, ho.kept.2.1.trans h.output, Nat.le_trans h.size ho.kept.size, fun i hi =>
    (kept_block ho.kept (Nat.lt_of_lt_of_le hi h.size) (fun p ⟨j, _, _, hp⟩ => by subst hp; show H ≠ i; omega)).trans (h.block i hi)⟩

/-- An int as uint64. -/
def u64 (x : Int) : Nat := (x % 18446744073709551616).toNat
theorem u64_lt (x : Int) : u64 x < 18446744073709551616 := by unfold u64; omega
theorem u64_wrap (x : Int) : IntKind.u64.wrap x = (u64 x : Int) := by rw [IntKind.wrap_u64]; unfold u64; omega

/-- The head that encode writes. -/
def hd (a : App) : List UInt8 := Lib.uvarint (u64 a.call) ++ Lib.uvarint (u64 (IntKind.i64.wrap (a.ret + 1))) ++ Lib.uvarint a.val.size
/-- What encode writes. -/
def encB (a : App) : ByteArray := ⟨(hd a).toArray⟩ ++ a.val

theorem hd_length (a : App) (h : a.val.size < 18446744073709551616) : (hd a).length ≤ 30 := by
  have h1 := Lib.uvarint_length64 (u64_lt a.call)
  have h2 := Lib.uvarint_length64 (u64_lt (IntKind.i64.wrap (a.ret + 1)))
  have h3 := Lib.uvarint_length64 h
  simp only [hd, List.length_append]; omega

/-- The world in which encode appends. -/
theorem enc_world (a : App) (w : World) (Z : Array Value) (hZ : Z.size = 30) {W : World} (hW : W = (w.alloc (.cells #[.int .i64 a.call, .int .i64 a.ret, .string a.val] 27)).alloc (.cells Z 62)) :
    W.cell? ⟨w.heap.size, 0, none⟩ = some (.int .i64 a.call) ∧ W.cell? ⟨w.heap.size, 1, none⟩ = some (.int .i64 a.ret) ∧ W.cell? ⟨w.heap.size, 2, none⟩ = some (.string a.val) ∧
    Came W 1 (some ⟨w.heap.size + 1, 0, none⟩) (w.heap.size + 1) 0 0 30 [] ∧ Kp w W ∧ w.heap.size + 2 = W.heap.size := by
  subst hW
  have hs : ((w.alloc (.cells #[.int .i64 a.call, .int .i64 a.ret, .string a.val] 27)).alloc (.cells Z 62)).heap.size = w.heap.size + 2 := by
    show ((w.heap.push _).push _).size = _
    simp
  refine ⟨by simp, by simp, by simp, ⟨by omega, fun _ => rfl, fun _ => by rw [hs]; omega, rfl, fun j u h => by simp at h, fun j hj => ⟨?_, ?_⟩⟩, ((Kp.refl w).alloc _).alloc _, hs.symm⟩
  · have e : w.heap.size + 1 = (w.alloc (.cells #[.int .i64 a.call, .int .i64 a.ret, .string a.val] 27)).heap.size := by
      show _ = (w.heap.push _).size
      simp
    rw [e, World.cell?_alloc_new]
    have : 0 + 0 * 1 + j < Z.size := by omega
    rw [Array.getElem?_eq_getElem this]; rfl
  · have e : w.heap.size + 1 = (w.alloc (.cells #[.int .i64 a.call, .int .i64 a.ret, .string a.val] 27)).heap.size := by
      show _ = (w.heap.push _).size
      simp
    rw [e, World.frozen?_alloc_new]

set_option maxRecDepth 100000 in
set_option maxHeartbeats 4000000 in
/-- encode. -/
theorem encode_any (a : App) (w : World) (h1 : a.val.size ≤ 140737488355328) :
    Calls Yba.prog 17 #[.agg #[.int .i64 a.call, .int .i64 a.ret, .string a.val]] w fun e w' => e = .returned (.string (encB a)) ∧ Kp w w' := by
  have l1 := Lib.uvarint_length64 (u64_lt a.call)
  have l2 := Lib.uvarint_length64 (u64_lt (IntKind.i64.wrap (a.ret + 1)))
  have l3 := Lib.uvarint_length64 (x := a.val.size) (by omega)
  obtain ⟨u1, hu1⟩ : ∃ u1, Lib.uvarint (u64 a.call) = u1 := ⟨_, rfl⟩
  obtain ⟨u2, hu2⟩ : ∃ u2, Lib.uvarint (u64 (IntKind.i64.wrap (a.ret + 1))) = u2 := ⟨_, rfl⟩
  obtain ⟨u3, hu3⟩ : ∃ u3, Lib.uvarint a.val.size = u3 := ⟨_, rfl⟩
  rw [hu1] at l1
  rw [hu2] at l2
  rw [hu3] at l3
  have HU : Hid (Lib.uvarint (u64 a.call) = u1 ∧ Lib.uvarint (u64 (IntKind.i64.wrap (a.ret + 1))) = u2 ∧ Lib.uvarint a.val.size = u3) := ⟨hu1, hu2, hu3⟩
  clear hu1 hu2 hu3
  go_enter Yba.func17, Yba.ntmps17
  go_wp2_with fail
  generalize hW : World.alloc _ _ = W
  obtain ⟨c0, c1, c2, hc, hk, hs⟩ := enc_world a w _ rfl hW.symm
  have HC : Hid (Came W 1 (some ⟨w.heap.size + 1, 0, none⟩) (w.heap.size + 1) 0 0 30 [] ∧ Kp w W ∧ w.heap.size + 2 = W.heap.size) := ⟨hc, hk, hs⟩
  clear hc hk hs hW
  have C1 : Hid (W.cell? ⟨w.heap.size, 1, none⟩ = some (.int .i64 a.ret) ∧ W.cell? ⟨w.heap.size, 2, none⟩ = some (.string a.val)) := ⟨c1, c2⟩
  clear c1 c2
  obtain ⟨A, hA⟩ : ∃ A, w.heap.size = A := ⟨_, rfl⟩
  obtain ⟨H, hH⟩ : ∃ H, A + 1 = H := ⟨_, rfl⟩
  rw [hA, hH] at HC
  rw [hA] at c0 C1
  simp only [hA, hH]
  have HA : Hid (w.heap.size = A ∧ A + 1 = H) := ⟨hA, hH⟩
  clear hA hH
  have mx := mixed
  have x1 := u64_wrap a.call
  obtain ⟨r, hr⟩ : ∃ r, IntKind.i64.wrap (a.ret + 1) = r := ⟨_, rfl⟩
  have x2 := u64_wrap r
  rw [hr] at HU
  have x3 : IntKind.u64.wrap ((a.val.size : Nat) : Int) = ((a.val.size : Nat) : Int) := by rw [IntKind.wrap_u64]; omega
  go_region_with (go_at_call 21; refine (Yba.appendUvarint_onto W _ H 0 0 30 [] HC.out.1 (u64 a.call) (u64_lt _) _ 0 [] _ ((Onto.start HC.out.1).drew HC.out.1) (by omega)).mono ?_; rintro e w1 ⟨v1, rfl, ho1⟩)
  have H1 : Hid (Onto W 5 1 (some ⟨H, 0, none⟩) H 0 0 30 [] w1 v1 u1.length (Lib.byteCells u1)) := by
    have := ho1
    rw [HU.out.1] at this
    unfold Hid
    simpa using this
  clear ho1 c0 x1
  have hHA := HA.out
  have hW2 := HC.out.2.2
  have c1 : w1.cell? ⟨A, 1, none⟩ = some (.int .i64 a.ret) := (H1.out.old (by omega) (fun j _ _ e => by omega)).trans C1.out.1
  clear hHA hW2
  go_wp2_with fail
  refine (Yba.appendUvarint_onto W _ H 0 0 30 [] HC.out.1 (u64 r) (u64_lt _) _ u1.length (Lib.byteCells u1) _ H1.out (by omega)).mono ?_
  rintro e w2 ⟨v2, rfl, ho2⟩
  have H2 : Hid (Onto W 5 1 (some ⟨H, 0, none⟩) H 0 0 30 [] w2 v2 (u1.length + u2.length) (Lib.byteCells u1 ++ Lib.byteCells u2)) := by
    have := ho2
    rwa [HU.out.2.1] at this
  clear ho2 c1 H1
  have hHA := HA.out
  have hW2 := HC.out.2.2
  have c2 : w2.cell? ⟨A, 2, none⟩ = some (.string a.val) := (H2.out.old (by omega) (fun j _ _ e => by omega)).trans C1.out.2
  clear hHA hW2
  go_wp2_with fail
  refine (Yba.appendUvarint_onto W _ H 0 0 30 [] HC.out.1 a.val.size (by omega) _ (u1.length + u2.length) (Lib.byteCells u1 ++ Lib.byteCells u2) _ H2.out (by omega)).mono ?_
  rintro e w3 ⟨v3, rfl, ho3⟩
  have H3 : Hid (Onto W 5 1 (some ⟨H, 0, none⟩) H 0 0 30 [] w3 v3 (u1 ++ u2 ++ u3).length (Lib.byteCells (u1 ++ u2 ++ u3))) := by
    have := ho3
    rw [HU.out.2.2] at this
    unfold Hid
    simpa [Lib.byteCells_append, Nat.add_assoc] using this
  clear ho3 c2 H2
  obtain ⟨U, hU⟩ : ∃ U, u1 ++ u2 ++ u3 = U := ⟨_, rfl⟩
  have HU2 : Hid (hd a = U ∧ U.length ≤ 30) := by
    obtain ⟨q1, q2, q3⟩ := HU.out
    refine ⟨by rw [hd, hr, q1, q2, q3, hU], ?_⟩
    rw [← hU]; simp only [List.length_append]; omega
  rw [hU] at H3
  clear hU
  have hHA := HA.out
  have hW2 := HC.out.2.2
  have hU30 := HU2.out.2
  have c2 : w3.cell? ⟨A, 2, none⟩ = some (.string a.val) := (H3.out.old (by omega) (fun j _ _ e => by omega)).trans C1.out.2
  obtain rfl : v3 = .slice (some ⟨H, 0, none⟩) U.length 30 := by
    rcases H3.out.val with ⟨_, e⟩ | ⟨e, _⟩
    · simpa using e
    · omega
  have hcv := run_convert_bytes_back (P := Yba.prog) w3 61 9 5 ⟨H, 0, none⟩ 30 U Yba.underlying61 Yba.underlying5 Yba.underlying9 (fun j hj => by
    have h := H3.out.written j (by rw [Lib.byteCells_length]; exact hj) (by omega)
    rw [Addr.add_lit]
    simp [Lib.byteCells, List.getElem?_eq_getElem hj] at h
    simpa using h)
  have hadd := run_string_add_sum (P := Yba.prog) w3 ⟨U.toArray⟩ a.val (by
    have : (⟨U.toArray⟩ : ByteArray).size = U.length := by simp [ByteArray.size]
    omega)
  clear hHA hW2 hU30
  go_wp2_with fail
  go_ret
  refine ⟨by rw [encB, HU2.out.1]; rfl, ?_⟩
  exact HC.out.2.1.onto (by have := HA.out; omega) H3.out
end Go.Proofs.Ybulkawey
