import Derived.Test.YbulkawdiDoorAnyMap
import Derived.Lib.ItoaLen
namespace Go.Proofs.YbulkawdiDoor
open Go.RowKit
open Go.ChangeMaps (setBlock)
open Go.MapKept (heap_set)

/-! ### A new key laid into a map -/
theorem law9 : Maps.Keyed Ybad.prog 9 := Maps.string_keyed Ybad.underlying9

/-- The keys of es are strings, none of them s. -/
def Fresh (es : Array MapEntry) (s : ByteArray) : Prop := ∀ x ∈ es.toList, ∃ t : ByteArray, x.key = .string t ∧ t.size ≤ maxLen ∧ t ≠ s

theorem put_new (w : World) (b clock : Nat) (es : Array MapEntry) (s : ByteArray) (v : Value) (hb : w.heap[b]? = some (.map es clock)) (hs : s.size ≤ maxLen) (hf : Fresh es s) :
    ∃ w', (Instr.mapUpdate 24 (.map (some b)) (.string s) v).run Ybad.prog w = .ok () w' ∧ w'.heap[b]? = some (.map (es.push ⟨.string s, v, clock⟩) (clock + 1)) ∧ w.grownBy w' (some b) ∧ w'.heap.size = w.heap.size := by
  have hkey := WideMaps.keyOf_string_mk Ybad.underlying9 hs
  have hks : ∀ e ∈ es.toList, ∃ l, keyOf Ybad.prog 9 e.key = some l := fun e he => by
    obtain ⟨t, h1, h2, _⟩ := hf e he
    rw [h1]; exact ⟨_, WideMaps.keyOf_string_mk Ybad.underlying9 h2⟩
  rcases law9.find w hkey es.toList hks with ⟨h1, _⟩ | ⟨j, e0, _, h2, h3⟩
  · refine ⟨setBlock w b (.map (es.push ⟨.string s, v, clock⟩) (clock + 1)), ?_, (heap_set hb).1, ⟨rfl, rfl, rfl, by simp [setBlock], fun k _ hk => (heap_set hb).2 k (fun h => hk (by rw [h]))⟩, by simp [setBlock]⟩
    simp [Instr.mapUpdate, run_underlying Ybad.underlying24, MapKept.run_getObj_map hb, law9.check w false hkey, h1, MapKept.run_setObj_map _ hb, Result.andThen, setBlock]
  · obtain ⟨t, e1, _, e3⟩ := hf e0 (List.mem_of_getElem? h2)
    rw [e1] at h3
    exact absurd (by cases h3; rfl) e3

/-- The same as an equation for a walk. -/
theorem put_eq (w : World) (b clock : Nat) (es : Array MapEntry) (s : ByteArray) (v : Value) (hb : w.heap[b]? = some (.map es clock)) (hs : s.size ≤ maxLen) (hf : Fresh es s) :
    (Instr.mapUpdate 24 (.map (some b)) (.string s) v).run Ybad.prog w = .ok () (setBlock w b (.map (es.push ⟨.string s, v, clock⟩) (clock + 1))) := by
  have hkey := WideMaps.keyOf_string_mk Ybad.underlying9 hs
  have hks : ∀ e ∈ es.toList, ∃ l, keyOf Ybad.prog 9 e.key = some l := fun e he => by
    obtain ⟨t, h1, h2, _⟩ := hf e he
    rw [h1]; exact ⟨_, WideMaps.keyOf_string_mk Ybad.underlying9 h2⟩
  rcases law9.find w hkey es.toList hks with ⟨h1, _⟩ | ⟨j, e0, _, h2, h3⟩
  · simp [Instr.mapUpdate, run_underlying Ybad.underlying24, MapKept.run_getObj_map hb, law9.check w false hkey, h1, MapKept.run_setObj_map _ hb, Result.andThen, setBlock]
  · obtain ⟨t, e1, _, e3⟩ := hf e0 (List.mem_of_getElem? h2)
    rw [e1] at h3
    exact absurd (by cases h3; rfl) e3
theorem set_grown (w : World) (b : Nat) {o : Obj} (o' : Obj) (hb : w.heap[b]? = some o) : (setBlock w b o').heap[b]? = some o' ∧ w.grownBy (setBlock w b o') (some b) :=
  ⟨(heap_set hb).1, ⟨rfl, rfl, rfl, by simp [setBlock], fun k _ hk => (heap_set hb).2 k (fun h => hk (by rw [h]))⟩⟩

section
variable {ops : Array Oper} {rest : List Oper} {o : Oper} {a : Act} {w : World} {Q : Exit → Act → World → Prop}
/-- 'm[k] = v' inside a literal. -/
theorem step_insert (hg : o.guard = none) (m k x : Operand) (hop : o.op = Op.insert 24 m k x) (b clock : Nat) (es : Array MapEntry) (s : ByteArray) (v : Value)
    (hm : a.eval m = .map (some b)) (hk : a.eval k = .string s) (hx : a.eval x = v) (hb : w.heap[b]? = some (.map es clock)) (hs : s.size ≤ maxLen) (hf : Fresh es s)
    (h : ∀ w', w'.heap[b]? = some (.map (es.push ⟨.string s, v, clock⟩) (clock + 1)) → w.grownBy w' (some b) → w'.heap.size = w.heap.size → wpList Ybad.prog ops Q rest (a.put o.dst undef) w') :
    wpList Ybad.prog ops Q (o :: rest) a w := by
  obtain ⟨w', hrun, h1, h2, h3⟩ := put_new w b clock es s v hb hs hf
  refine wpList_plain hg fun K' hK' => ?_
  unfold Oper.wp
  simp [execOp, hop, hm, hk, hx, hrun, Result.andThen]
  exact hK' _ _ (h w' h1 h2 h3)
end

/-! ### The items -/
structure Items where
  K : Nat → Int
  V : Nat → Int

/-- The argument's cells. -/
def ItemsAt (c : Items) (n : Nat) (a : Addr) (w : World) : Prop :=
  0 < n → ∃ b off, a = ⟨b, off, none⟩ ∧ b < w.heap.size ∧ ∀ i, i < n → w.cell? ⟨b, off + i * 2, none⟩ = some (.int .u8 (c.K i)) ∧ w.cell? ⟨b, off + i * 2 + 1, none⟩ = some (.int .i64 (c.V i)) ∧
    (0 ≤ c.K i ∧ c.K i ≤ 255) ∧ In64 (c.V i)

/-- The decimal numeral. -/
def numStr (n : Nat) : ByteArray := ⟨(Lib.itoa n).toArray⟩
/-- strconv.Itoa, in a world. -/
def ItoaIn (w : World) : Prop := ∀ n : Nat, n ≤ 1024 → Calls Ybad.prog 4 #[.int .i64 n] w fun e w' => e = .returned (.string (numStr n)) ∧ w.grownBy w' none

theorem info20 : (Ybad.prog.info? 20).map (fun i => (i.zero, i.size, i.bytes)) = some (some .nilIface, 1, 16) := by kernel_rfl
/-- n nil interfaces. -/
def nrow (n : Nat) : Array Value := madeCells #[.nilIface] n
theorem nrow_size (n : Nat) : (nrow n).size = n := size_madeCells _ _
theorem make23 (n : Nat) (hn : n ≤ 1024) (w : World) : (Instr.makeSlice 23 (.int .i64 0) (.int .i64 ((n : Int) + 1))).run Ybad.prog w = .ok (.slice (some ⟨w.heap.size, 0, none⟩) 0 (n + 1)) (w.alloc (.cells (nrow (n + 1)) 20)) := by
  obtain ⟨i0, hi, hz0, hz1, hz2⟩ := info_parts info20
  have := run_make (P := Ybad.prog) w 23 20 i0 _ Ybad.underlying23 hi hz0 .i64 .i64 0 ((n : Int) + 1) (Int.le_refl _) (by omega) (by rw [hz2]; omega) (by omega)
  rw [this, hz1]
  have e : ((n : Int) + 1).toNat = n + 1 := by omega
  simp [nrow, Value.cells, e]

/-- The key of item j. -/
def keyStr (j : Nat) : ByteArray := ⟨#[107]⟩ ++ numStr j
theorem numStr_size (n : Nat) (hn : n ≤ 1024) : (numStr n).size ≤ 21 := by
  have := Lib.itoa_length_le n (by omega) (by omega)
  simpa [numStr, ByteArray.size] using this
theorem keyStr_size (n : Nat) (hn : n ≤ 1024) : (keyStr n).size ≤ maxLen := by
  have := numStr_size n hn
  have e : (keyStr n).size = 1 + (numStr n).size := by unfold keyStr; rw [ByteArray.size_append]; rfl
  unfold maxLen; omega

/-- Read a numeral back. -/
def numVal (l : List UInt8) : Nat := l.foldl (fun a d => a * 10 + (d.toNat - 48)) 0
theorem numVal_all : (List.range 1025).all (fun n => numVal (Lib.itoa n) == n) = true := by decide +kernel
theorem numVal_itoa (n : Nat) (hn : n ≤ 1024) : numVal (Lib.itoa n) = n := by
  have := List.all_eq_true.1 numVal_all n (List.mem_range.2 (by omega))
  simpa using this
theorem keyStr_inj {i j : Nat} (hi : i ≤ 1024) (hj : j ≤ 1024) (h : keyStr i = keyStr j) : i = j := by
  have e : numStr i = numStr j := by
    have h2 := congrArg (fun b : ByteArray => b.data.toList) h
    simp [keyStr, ByteArray.data_append] at h2
    have h3 : (numStr i).data = (numStr j).data := by
      apply Array.toList_inj.1
      simpa using h2
    exact ByteArray.ext h3
  have e2 : Lib.itoa i = Lib.itoa j := by
    have := congrArg (fun b : ByteArray => b.data.toList) e
    simpa [numStr] using this
  rw [← numVal_itoa i hi, ← numVal_itoa j hj, e2]

/-- An entry's leaf. -/
def leafOf (e : MapEntry) : List Int := match e.val with | .iface _ (.int _ y) => [y] | _ => []

/-- What stands after k items. -/
structure InvAt (m : Int) (N n k t : Nat) (want : Bool) (leaves : Int) (w wr : World) (xs : List Value) (Ls : List (List Int)) (es : Array MapEntry) (clock : Nat) : Prop where
  tk : t ≤ k
  box : wr.heap[N]? = some (.cells #[.int .i64 m] 3 (0, 0))
  own : wr.ownsRow N 20 1 (.slice (some ⟨N + 1, 0, none⟩) t (n + 1)) t xs
  len : Ls.length = t
  tops : ∀ i, i < t → ∃ u, xs[i]? = some u ∧ Leafy (N + 3) wr 3 u (Ls.getD i [])
  map : wr.heap[N + 2]? = some (.map es clock)
  stamps : Stamps es clock
  entries : ∀ x ∈ es.toList, ∃ j y, j < k ∧ x.key = .string (keyStr j) ∧ x.val = .iface 3 (.int .i64 y) ∧ In64 y
  want_eq : want = (Ls.flatten ++ es.toList.flatMap leafOf).any (hitB m)
  leaves_eq : leaves = ((Ls.flatten ++ es.toList.flatMap leafOf).length : Nat)
  small : leaves ≤ k
  below : Below N w wr
  size : N + 3 ≤ wr.heap.size

def Inv (m : Int) (N n k t : Nat) (want : Bool) (leaves : Int) (w wr : World) : Prop := ∃ xs Ls es clock, InvAt m N n k t want leaves w wr xs Ls es clock

theorem heap_none {w w' : World} (hg : w.grownBy w' none) {b : Nat} {o : Obj} (h : w.heap[b]? = some o) : w'.heap[b]? = some o := by
  rw [hg.block b (Array.getElem?_eq_some_iff.1 h).1 (by simp), h]
theorem heap_row {w w' : World} {j : Nat} (hg : w.grownBy w' (some j)) {b : Nat} {o : Obj} (h : w.heap[b]? = some o) (hne : b ≠ j) : w'.heap[b]? = some o := by
  rw [hg.block b (Array.getElem?_eq_some_iff.1 h).1 (fun e => hne (by cases e; rfl)), h]

theorem leafy_int {lo : Nat} {w : World} {n : Nat} {x : Int} (hx : In64 x) : Leafy lo w (n + 1) (.iface 3 (.int .i64 x)) [x] := .inl ⟨x, rfl, rfl, hx⟩
theorem leafy_empty {lo : Nat} {w : World} {n B cap : Nat} {C : Array Value} (hlo : lo ≤ B) (hB : w.heap[B]? = some (.cells C 20 (0, 0))) : Leafy lo w (n + 1) (.iface 23 (.slice (some ⟨B, 0, none⟩) 0 cap)) [] :=
  .inr (.inl ⟨B, cap, C, [], rfl, hlo, by simp, hB, rfl, fun i h => by simp at h⟩)
theorem leafy_one {lo : Nat} {w : World} {n B cap : Nat} {u : Value} {L : List Int} (hlo : lo ≤ B) (hB : w.heap[B]? = some (.cells #[u] 20 (0, 0))) (hu : Leafy lo w n u L) : Leafy lo w (n + 1) (.iface 23 (.slice (some ⟨B, 0, none⟩) 1 cap)) L :=
  .inr (.inl ⟨B, cap, _, [L], rfl, hlo, by simp, hB, by simp, fun i h => by
    obtain rfl : i = 0 := by simpa using h
    exact ⟨u, rfl, hu⟩⟩)
theorem leafy_two {lo : Nat} {w : World} {n B cap : Nat} {u v : Value} {L M : List Int} (hlo : lo ≤ B) (hB : w.heap[B]? = some (.cells #[u, v] 20 (0, 0))) (hu : Leafy lo w n u L) (hv : Leafy lo w n v M) :
    Leafy lo w (n + 1) (.iface 23 (.slice (some ⟨B, 0, none⟩) 2 cap)) (L ++ M) :=
  .inr (.inl ⟨B, cap, _, [L, M], rfl, hlo, by simp, hB, by simp, fun i h => by
    have h' : i < 2 := by simpa using h
    match i, h' with
    | 0, _ => exact ⟨u, rfl, hu⟩
    | 1, _ => exact ⟨v, rfl, hv⟩⟩)
theorem leafy_map1 {lo : Nat} {w : World} {n b : Nat} {e : MapEntry} {L : List Int} (hlo : lo ≤ b) (hb : w.heap[b]? = some (.map #[e] 1)) (hborn : e.born = 0) (hu : Leafy lo w n e.val L) : Leafy lo w (n + 1) (.iface 24 (.map (some b))) L :=
  .inr (.inr ⟨b, 1, _, fun _ => L, rfl, hlo, hb, ⟨by simp [hborn], by simp⟩, by simp, fun x hx => by
    obtain rfl : x = e := by simpa using hx
    exact hu⟩)
theorem leafy_map0 {lo : Nat} {w : World} {n b : Nat} (hlo : lo ≤ b) (hb : w.heap[b]? = some (.map #[] 0)) : Leafy lo w (n + 1) (.iface 24 (.map (some b))) [] :=
  .inr (.inr ⟨b, 0, _, fun _ => [], rfl, hlo, hb, ⟨by simp, by simp⟩, by simp, fun x hx => by simp at hx⟩)
theorem leafy_map2 {lo : Nat} {w : World} {n b : Nat} {e f : MapEntry} {L M : List Int} (hlo : lo ≤ b) (hb : w.heap[b]? = some (.map #[e, f] 2)) (he : e.born = 0) (hf : f.born = 1) (hu : Leafy lo w n e.val L) (hv : Leafy lo w n f.val M) :
    Leafy lo w (n + 1) (.iface 24 (.map (some b))) (L ++ M) :=
  .inr (.inr ⟨b, 2, _, fun x => if x.born = 0 then L else M, rfl, hlo, hb, ⟨by simp [he, hf], by simp [he, hf]⟩, by simp [he, hf], fun x hx => by
    have : x = e ∨ x = f := by simpa using hx
    rcases this with rfl | rfl
    · simpa [he] using hu
    · simpa [hf] using hv⟩)

theorem fresh_key {m : Int} {N n k t : Nat} {want : Bool} {leaves : Int} {w wr : World} {xs : List Value} {Ls : List (List Int)} {es : Array MapEntry} {clock : Nat}
    (hI : InvAt m N n k t want leaves w wr xs Ls es clock) (hk : k ≤ 1024) : Fresh es (keyStr k) := fun x hx => by
  obtain ⟨j, y, hj, h1, _⟩ := hI.entries x hx
  exact ⟨_, h1, keyStr_size j (by omega), fun e => by have := keyStr_inj (by omega) hk e; omega⟩

/-- One tree more on top. -/
theorem inv_push {m : Int} {N n k t : Nat} {want want' : Bool} {leaves leaves' : Int} {w wr W7 W8 : World} {xs : List Value} {Ls : List (List Int)} {es : Array MapEntry} {clock : Nat}
    (hI : InvAt m N n k t want leaves w wr xs Ls es clock) {u : Value} {Lu : List Int} (h7 : wr.grownBy W7 none) (hu : Leafy (N + 3) W7 3 u Lu) (hLu : Lu.length ≤ 1)
    (h8 : W7.grownBy W8 (some (N + 1))) (own8 : W8.ownsRow N 20 1 (.slice (some ⟨N + 1, 0, none⟩) (t + 1) (n + 1)) (t + 1) (xs ++ [u]))
    (hw : want' = (want || Lu.any (hitB m))) (hl : leaves' = leaves + Lu.length) : Inv m N n (k + 1) (t + 1) want' leaves' w W8 := by
  have hxl : xs.length = t := by have := hI.own.1; simpa using this
  have lf : ∀ v L, Leafy (N + 3) W7 3 v L → Leafy (N + 3) W8 3 v L := fun v L h => leafy_by h8 (fun j hj => .inl (by cases hj; omega)) 3 v L h
  refine ⟨xs ++ [u], Ls ++ [Lu], es, clock, ?_⟩
  have hfl : (Ls ++ [Lu]).flatten = Ls.flatten ++ Lu := by simp
  refine { tk := by have := hI.tk; omega, box := heap_row h8 (heap_none h7 hI.box) (by omega), own := own8, len := by simp [hI.len], tops := fun i hi => ?_,
           map := heap_row h8 (heap_none h7 hI.map) (by omega), stamps := hI.stamps, entries := fun x hx => ?_, want_eq := ?_, leaves_eq := ?_, small := ?_,
           below := ?_, size := ?_ }
  · by_cases h : i < t
    · obtain ⟨v, h1, h2⟩ := hI.tops i h
      refine ⟨v, by rw [List.getElem?_append_left (by omega), h1], ?_⟩
      have e : (Ls ++ [Lu]).getD i [] = Ls.getD i [] := by simp [List.getD, List.getElem?_append_left (show i < Ls.length by rw [hI.len]; exact h)]
      rw [e]
      exact lf _ _ (leafy_grown h7 3 _ _ h2)
    · obtain rfl : i = t := by omega
      refine ⟨u, by rw [List.getElem?_append_right (by omega), hxl]; simp, ?_⟩
      have e : (Ls ++ [Lu]).getD i [] = Lu := by simp [List.getD, hI.len]
      rw [e]
      exact lf _ _ hu
  · obtain ⟨j, y, h1, h2⟩ := hI.entries x hx
    exact ⟨j, y, by omega, h2⟩
  · rw [hw, hI.want_eq, hfl]
    simp only [List.any_append]
    cases List.any Ls.flatten (hitB m) <;> cases List.any Lu (hitB m) <;> simp
  · rw [hl, hI.leaves_eq, hfl]; simp; omega
  · have := hI.small; omega
  · exact (hI.below.grown h7 (by have := hI.size; omega) (fun j hj => by cases hj)).grown h8 (Nat.le_trans (by have := hI.size; omega) h7.size) (fun j hj => by cases hj; omega)
  · exact Nat.le_trans hI.size (Nat.le_trans h7.size h8.size)

/-- One entry more in the shared map. -/
theorem inv_put {m : Int} {N n k t : Nat} {want want' : Bool} {leaves leaves' : Int} {w wr W7 W8 : World} {xs : List Value} {Ls : List (List Int)} {es : Array MapEntry} {clock : Nat}
    (hI : InvAt m N n k t want leaves w wr xs Ls es clock) {y : Int} (hy : In64 y) (h7 : wr.grownBy W7 none)
    (h8 : W7.grownBy W8 (some (N + 2))) (hm8 : W8.heap[N + 2]? = some (.map (es.push ⟨.string (keyStr k), .iface 3 (.int .i64 y), clock⟩) (clock + 1)))
    (hw : want' = (want || hitB m y)) (hl : leaves' = leaves + 1) : Inv m N n (k + 1) t want' leaves' w W8 := by
  refine ⟨xs, Ls, es.push ⟨.string (keyStr k), .iface 3 (.int .i64 y), clock⟩, clock + 1, ?_⟩
  have hfl : (es.push ⟨.string (keyStr k), .iface 3 (.int .i64 y), clock⟩).toList.flatMap leafOf = es.toList.flatMap leafOf ++ [y] := by simp [leafOf]
  have hN1 := hI.size
  refine { tk := by have := hI.tk; omega, box := heap_row h8 (heap_none h7 hI.box) (by omega), own := ?_, len := hI.len, tops := fun i hi => ?_,
           map := hm8, stamps := ?_, entries := fun x hx => ?_, want_eq := ?_, leaves_eq := ?_, small := ?_,
           below := ?_, size := ?_ }
  · exact (hI.own.kept h7 (.inr (by simp [Value.ownBlock]))).kept h8 (.inr (by simp [Value.ownBlock]))
  · obtain ⟨v, h1, h2⟩ := hI.tops i hi
    exact ⟨v, h1, leafy_by h8 (fun j hj => .inl (by cases hj; omega)) 3 _ _ (leafy_grown h7 3 _ _ h2)⟩
  · obtain ⟨s1, s2⟩ := hI.stamps
    refine ⟨fun x hx => ?_, ?_⟩
    · simp only [Array.toList_push, List.mem_append, List.mem_singleton] at hx
      rcases hx with hx | rfl
      · have := s1 x hx; omega
      · show clock < clock + 1; omega
    · rw [Array.toList_push, List.map_append, List.nodup_append]
      refine ⟨s2, by simp, fun a ha b hb => ?_⟩
      obtain ⟨x, hx, rfl⟩ := List.mem_map.1 ha
      have hb' : b = clock := by simpa using hb
      have := s1 x hx
      omega
  · simp only [Array.toList_push, List.mem_append, List.mem_singleton] at hx
    rcases hx with hx | rfl
    · obtain ⟨j, z, h1, h2⟩ := hI.entries x hx
      exact ⟨j, z, by omega, h2⟩
    · exact ⟨k, y, by omega, rfl, rfl, hy⟩
  · rw [hw, hI.want_eq, hfl]
    simp only [List.any_append, List.any_cons, List.any_nil, Bool.or_false, Bool.or_assoc]
  · rw [hl, hI.leaves_eq, hfl]; simp; omega
  · have := hI.small; omega
  · exact (hI.below.grown h7 (by have := hI.size; omega) (fun j hj => by cases hj)).grown h8 (Nat.le_trans (by have := hI.size; omega) h7.size) (fun j hj => by cases hj; omega)
  · exact Nat.le_trans hI.size (Nat.le_trans h7.size h8.size)

theorem heap_at (w : World) (o : Obj) (g : Nat) (h : g = w.heap.size) : (w.alloc o).heap[g]? = some o := by
  subst h; exact heap_alloc_new w o
theorem heap_under {w : World} {x : Obj} {g : Nat} (o : Obj) (h : w.heap[g]? = some x) : (w.alloc o).heap[g]? = some x := by
  rw [Go.heap_alloc_old w o (Array.getElem?_eq_some_iff.1 h).1, h]

theorem leafy_kind1 {N : Nat} {wr : World} {o1 o2 : Obj} {x : Int} (hws : N + 3 ≤ wr.heap.size) (hx : In64 x) :
    Leafy (N + 3) ((((wr.alloc o1).alloc (.cells #[] 20)).alloc (.cells #[.iface 3 (.int .i64 x), .iface 23 (.slice (some ⟨wr.heap.size + 1, 0, none⟩) 0 0)] 20)).alloc o2) 3 (.iface 23 (.slice (some ⟨wr.heap.size + 2, 0, none⟩) 2 2)) [x] :=
  leafy_two (L := [x]) (M := []) (by omega) (heap_under _ (heap_at _ _ _ (by simp))) (leafy_int hx) (leafy_empty (by omega) (heap_under _ (heap_under _ (heap_at _ _ _ (by simp)))))
theorem leafy_kind4 {N : Nat} {wr : World} {o1 o2 : Obj} (hws : N + 3 ≤ wr.heap.size) :
    Leafy (N + 3) (((wr.alloc o1).alloc (.cells #[] 20)).alloc o2) 3 (.iface 23 (.slice (some ⟨wr.heap.size + 1, 0, none⟩) 0 0)) [] :=
  leafy_empty (by omega) (heap_under _ (heap_at _ _ _ (by simp)))

theorem fresh_nil (s : ByteArray) : Fresh #[] s := fun x hx => by simp at hx
theorem fresh_ab (v : Value) (born : Nat) : Fresh #[⟨.string ⟨#[97]⟩, v, born⟩] ⟨#[98]⟩ := fun x hx => by
  obtain rfl : x = ⟨.string ⟨#[97]⟩, v, born⟩ := by simpa using hx
  exact ⟨_, rfl, by decide, by decide⟩
theorem len_a : (⟨#[97]⟩ : ByteArray).size ≤ maxLen := by decide
theorem len_b : (⟨#[98]⟩ : ByteArray).size ≤ maxLen := by decide

/-- New blocks, then one of those written. -/
theorem grown_new {wr W W' : World} {j : Nat} (h : wr.grownBy W none) (g : W.grownBy W' (some j)) (hj : wr.heap.size ≤ j) : wr.grownBy W' none :=
  h.andThen g (fun i hi => .inl (by cases hi; exact hj))

theorem grown_drew {w W : World} {row : Option Nat} (h : w.drew.grownBy W row) : w.grownBy W row := ⟨h.os, h.tape, h.output, h.size, h.block⟩
theorem it_cell {wr W2 : World} {a b : Value} (h : (wr.alloc (.cells #[a, b] 26)).drew.grownBy W2 none) : W2.cell? ⟨wr.heap.size, 1, none⟩ = some b := by
  rw [cell_of_row W2 _ 1 _ _ _ (heap_none (grown_drew h) (heap_alloc_new _ _))]; rfl
theorem map_after {wr W2 : World} {o x : Obj} {j : Nat} (h : (wr.alloc o).drew.grownBy W2 none) (hm : wr.heap[j]? = some x) : W2.heap[j]? = some x :=
  heap_none (grown_drew h) (heap_under _ hm)

/-- The one-cell block that an append lays ahead. -/
theorem one_new (W : World) (g : Nat) (x : Value) (hg : g = W.heap.size) : ∀ j u, ([x] : List Value)[j]? = some u → (W.alloc (.cells #[x] 20)).cell? ((⟨g, 0, none⟩ : Addr).add j) = some u := by
  subst hg
  intro j u hj
  match j, hj with
  | 0, hj =>
    simp at hj; subst hj
    show (W.alloc (.cells #[x] 20)).cell? ⟨W.heap.size, 0, none⟩ = some x
    rw [cell_of_row _ _ 0 _ _ _ (heap_alloc_new _ _)]; rfl
theorem one_cell (t : TypeId) (v : Value) : ∀ u ∈ ([.iface t v] : List Value), u.oneCell' = true := by
  intro u hu; simp at hu; subst hu; rfl

/-- Before the first item. -/
theorem inv_start {m : Int} {n : Nat} {w : World} (hn : n ≤ 1024) : Inv m w.heap.size n 0 0 false 0 w (((w.alloc (.cells #[.int .i64 m] 3)).alloc (.cells (nrow (n + 1)) 20)).alloc (.map #[] 0)) := by
  refine ⟨[], [], #[], 0, ?_⟩
  have hown := (World.ownsRow_made (base := w.heap.size) (e := 20) (size := 1) (w.alloc (.cells #[.int .i64 m] 3)) (nrow (n + 1)) (n + 1) (by simp) (by unfold maxLen; omega) (by rw [nrow_size]; simp)).alloc (.map #[] 0)
  have e : (w.alloc (.cells #[.int .i64 m] 3)).heap.size = w.heap.size + 1 := by simp
  rw [e] at hown
  refine { tk := Nat.le_refl _, box := heap_under _ (heap_under _ (heap_alloc_new _ _)), own := hown, len := rfl, tops := fun i hi => absurd hi (by omega), map := heap_at _ _ _ (by simp),
           stamps := ⟨by simp, by simp⟩, entries := fun x hx => by simp at hx, want_eq := rfl, leaves_eq := rfl, small := Int.le_refl _,
           below := (((Below.refl _ _).alloc (Nat.le_refl _) _).alloc (by simp) _).alloc (by simp; omega) _, size := by simp }

/-- The shared map as a tree. -/
theorem shared_tree {m : Int} {N n k t : Nat} {want : Bool} {leaves : Int} {w wr : World} {xs : List Value} {Ls : List (List Int)} {es : Array MapEntry} {clock : Nat}
    (hI : InvAt m N n k t want leaves w wr xs Ls es clock) {W : World} (hW : W.heap[N + 2]? = some (.map es clock)) : Leafy 0 W 3 (.iface 24 (.map (some (N + 2)))) (es.toList.flatMap leafOf) :=
  .inr (.inr ⟨N + 2, clock, es, leafOf, rfl, Nat.zero_le _, hW, hI.stamps, rfl, fun x hx => by
    obtain ⟨j, y, _, _, h2, h3⟩ := hI.entries x hx
    have e : leafOf x = [y] := by simp [leafOf, h2]
    rw [e, h2]
    exact leafy_int h3⟩)

/-- The whole tree, once the shared map has been put on top. -/
theorem final_tree {m : Int} {N n k t : Nat} {want : Bool} {leaves : Int} {w wr W7 W8 W : World} {xs : List Value} {Ls : List (List Int)} {es : Array MapEntry} {clock : Nat}
    (hI : InvAt m N n k t want leaves w wr xs Ls es clock) (hk : k ≤ 1024) (h7 : wr.grownBy W7 none) (h8 : W7.grownBy W8 (some (N + 1)))
    (own8 : W8.ownsRow N 20 1 (.slice (some ⟨N + 1, 0, none⟩) (t + 1) (n + 1)) (t + 1) (xs ++ [.iface 24 (.map (some (N + 2)))])) (h9 : W8.grownBy W none) :
    Leafy 0 W 4 (.iface 23 (.slice (some ⟨N + 1, 0, none⟩) (t + 1) (n + 1))) (Ls.flatten ++ es.toList.flatMap leafOf) := by
  have hxl : xs.length = t := by have := hI.own.1; simpa using this
  have htk := hI.tk
  obtain ⟨_, h⟩ := own8
  rcases h with ⟨hv, _⟩ | ⟨g, cp, cur, hv, _, hcur, hl, hm, hsz, htake⟩
  · cases hv
  have hg : g = N + 1 := by cases hv; rfl
  subst hg
  have hlen : (Ls ++ [es.toList.flatMap leafOf]).length = t + 1 := by simp [hI.len]
  refine .inr (.inl ⟨N + 1, n + 1, cur, Ls ++ [es.toList.flatMap leafOf], by rw [hlen], Nat.zero_le _, by rw [hlen]; omega, heap_none h9 hcur, by simp, fun i hi => ?_⟩)
  rw [hlen] at hi
  have hci : cur[i]? = (xs ++ [.iface 24 (.map (some (N + 2)))])[i]? := by
    rw [← htake, List.getElem?_take, if_pos (by omega), Array.getElem?_toList]
  have lf : ∀ v L, Leafy (N + 3) wr 3 v L → Leafy 0 W 3 v L := fun v L h =>
    leafy_lo (Nat.zero_le _) 3 _ _ (leafy_grown h9 3 _ _ (leafy_by h8 (fun j hj => .inl (by cases hj; omega)) 3 _ _ (leafy_grown h7 3 _ _ h)))
  by_cases hit : i < t
  · obtain ⟨u, h1, h2⟩ := hI.tops i hit
    refine ⟨u, by rw [hci, List.getElem?_append_left (by omega), h1], ?_⟩
    have e : (Ls ++ [es.toList.flatMap leafOf]).getD i [] = Ls.getD i [] := by simp [List.getD, List.getElem?_append_left (show i < Ls.length by rw [hI.len]; exact hit)]
    rw [e]
    exact lf _ _ h2
  · obtain rfl : i = t := by omega
    refine ⟨.iface 24 (.map (some (N + 2))), by rw [hci, List.getElem?_append_right (by omega), hxl]; simp, ?_⟩
    have e : (Ls ++ [es.toList.flatMap leafOf]).getD i [] = es.toList.flatMap leafOf := by simp [List.getD, hI.len]
    rw [e]
    exact shared_tree hI (heap_none h9 (heap_row h8 (heap_none h7 hI.map) (by omega)))
end Go.Proofs.YbulkawdiDoor
