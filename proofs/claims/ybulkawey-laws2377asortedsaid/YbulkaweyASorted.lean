import Derived.Test.YbulkaweyEq
import Derived.Test.YbulkaweySortStable
namespace Go.Proofs.Ybulkawey
open Go.RowKit
set_option linter.unusedVariables false

theorem flat_length : ∀ (S : List App), (∀ x ∈ S, App.fits x) → (flat S).length ≤ S.length * 140737488355358
  | [], _ => by simp [flat]
  | a :: S, h => by
    have h1 := encL_length a (h a (by simp))
    have h2 := flat_length S (fun x hx => h x (by simp [hx]))
    have h3 := (h a (by simp)).2.2.2.2
    rw [flat_cons, List.length_append, List.length_cons]
    omega

/-- Order of calls. -/
abbrev ByCall (S : List App) : Prop := S.Pairwise (fun x y => x.call ≤ y.call)

theorem ins_laws {S S1 S2 : List App} {a : App} (hS : S = S1 ++ S2) (h1 : ∀ x ∈ S1, x.call ≤ a.call) (h2 : ∀ x, S2.head? = some x → a.call < x.call) (hs : ByCall S) :
    ByCall (S1 ++ a :: S2) ∧ ∀ c, (S1 ++ a :: S2).filter (fun x => x.call == c) = S.filter (fun x => x.call == c) ++ [a].filter (fun x => x.call == c) := by
  subst hS
  rw [ByCall, List.pairwise_append] at hs
  obtain ⟨p1, p2, p3⟩ := hs
  have h3 : ∀ x ∈ S2, a.call < x.call := by
    cases S2 with
    | nil => intro x hx; simp at hx
    | cons y S3 =>
      have hy := h2 y rfl
      intro x hx
      rcases List.mem_cons.1 hx with rfl | hx
      · exact hy
      · have := (List.pairwise_cons.1 p2).1 x hx
        omega
  refine ⟨?_, fun c => ?_⟩
  · rw [ByCall, List.pairwise_append, List.pairwise_cons]
    refine ⟨p1, ⟨fun x hx => by have := h3 x hx; omega, p2⟩, fun x hx y hy => ?_⟩
    rcases List.mem_cons.1 hy with rfl | hy
    · exact h1 x hx
    · exact p3 x hx y hy
  · by_cases e : a.call = c
    · have hn : S2.filter (fun x => x.call == c) = [] := by
        rw [List.filter_eq_nil_iff]
        intro x hx
        have := h3 x hx
        simp; omega
      rw [List.filter_append, List.filter_append, hn, List.filter_cons, if_pos (by simp [e]), hn, List.filter_cons, if_pos (by simp [e])]
      simp
    · rw [List.filter_append, List.filter_append, List.filter_cons, if_neg (by simp [e]), List.filter_cons, if_neg (by simp [e])]
      simp

theorem cs3_length : ∀ (S : List App), (cs3 S).length = S.length * 3
  | [] => rfl
  | a :: S => by
    have : cs3 (a :: S) = c3 a ++ cs3 S := by simp [cs3]
    rw [this, List.length_append, cs3_length S, List.length_cons]
    simp [c3]; omega
theorem cs3_at : ∀ (S : List App) (i j : Nat) (a : App), S[i]? = some a → j < 3 → (cs3 S)[i * 3 + j]? = (c3 a)[j]?
  | [], i, j, a, h, _ => by simp at h
  | b :: S, 0, j, a, h, hj => by
    simp at h; subst h
    have : cs3 (b :: S) = c3 b ++ cs3 S := by simp [cs3]
    rw [this, List.getElem?_append_left (by simp [c3]; omega)]
    simp
  | b :: S, i + 1, j, a, h, hj => by
    have e : cs3 (b :: S) = c3 b ++ cs3 S := by simp [cs3]
    have l : (c3 b).length = 3 := rfl
    rw [e, List.getElem?_append_right (by omega), l, show (i + 1) * 3 + j - 3 = i * 3 + j by omega]
    exact cs3_at S i j a (by simpa using h) hj
theorem seg_at {f : Nat → App} {n i : Nat} (hi : i < n) : (seg f 0 n)[i]? = some (f i) := by
  simp [seg, hi]
theorem seg_snoc (f : Nat → App) (k : Nat) : seg f 0 (k + 1) = seg f 0 k ++ [f k] := by
  rw [seg_append f (Nat.zero_le k) (Nat.le_succ k), seg_one]

theorem own_row {w : World} {base G n : Nat} {f : Nat → App} (h : w.ownsRow base 27 3 (.slice (some ⟨G, 0, none⟩) n n) n (cs3 (seg f 0 n))) : RowF G n f w ∧ G < w.heap.size := by
  rcases h.2 with ⟨h0, _⟩ | ⟨g, cap, cur, hv, hb, hg, _, _, hsz, htk⟩
  · cases h0
  · simp only [Value.slice.injEq, Option.some.injEq, Addr.mk.injEq, and_true, true_and] at hv
    obtain ⟨rfl, rfl⟩ := hv
    have e : cur.toList = cs3 (seg f 0 n) := by rw [← htk, List.take_of_length_le (by rw [Array.length_toList]; omega)]
    have at' : ∀ i, i < n → ∀ j, j < 3 → cur[i * 3 + j]? = (c3 (f i))[j]? := fun i hi j hj => by
      rw [← Array.getElem?_toList, e]; exact cs3_at _ i j _ (seg_at hi) hj
    exact ⟨⟨cur, hg, hsz, fun i hi => ⟨at' i hi 0 (by omega), at' i hi 1 (by omega), at' i hi 2 (by omega)⟩⟩, (Array.getElem?_eq_some_iff.1 hg).1⟩

theorem own_at {w : World} {base g n cap : Nat} {f : Nat → App} (h : w.ownsRow base 27 3 (.slice (some ⟨g, 0, none⟩) n cap) n (cs3 (seg f 0 n))) : At g n f w ∧ g < w.heap.size := by
  refine ⟨fun i hi => ⟨?_, ?_, ?_⟩, (h.lt g rfl).2⟩
  · rw [h.cellAt (i * 3) (by omega)]; exact cs3_at _ i 0 _ (seg_at hi) (by omega)
  · rw [h.cellAt (i * 3 + 1) (by omega)]; exact cs3_at _ i 1 _ (seg_at hi) (by omega)
  · rw [h.cellAt (i * 3 + 2) (by omega)]; exact cs3_at _ i 2 _ (seg_at hi) (by omega)

theorem RowF.keptK {G N : Nat} {f : Nat → App} {w w' : World} (h : RowF G N f w) (k : Kp w w') : RowF G N f w' := by
  obtain ⟨C, hC, r⟩ := h
  exact ⟨C, (k.block G (Array.getElem?_eq_some_iff.1 hC).1).trans hC, r⟩

/-- The items, cell by cell. -/
def Items (ao : Option Addr) (n : Nat) (f : Nat → App) (w : World) : Prop := 0 < n → ∃ b off, ao = some ⟨b, off, none⟩ ∧ b < w.heap.size ∧ ∀ i, i < n →
  w.cell? ⟨b, off + i * 3, none⟩ = some (.int .i64 (f i).call) ∧ w.cell? ⟨b, off + i * 3 + 1, none⟩ = some (.int .i64 (f i).ret) ∧ w.cell? ⟨b, off + i * 3 + 2, none⟩ = some (.string (f i).val)

/-- What the first k items have been made into. -/
def Upto (f : Nat → App) (k : Nat) (S : List App) : Prop :=
  S.length = k ∧ ByCall S ∧ (∀ x ∈ S, App.fits x) ∧ ∀ c, S.filter (fun x => x.call == c) = (seg f 0 k).filter (fun x => x.call == c)
theorem Upto.step {f : Nat → App} {k : Nat} {S S1 S2 : List App} (h : Upto f k S) (hf : (f k).fits) (hS : S = S1 ++ S2) (h1 : ∀ x ∈ S1, x.call ≤ (f k).call) (h2 : ∀ x, S2.head? = some x → (f k).call < x.call) :
    Upto f (k + 1) (S1 ++ f k :: S2) := by
  obtain ⟨p1, p2, p3, p4⟩ := h
  obtain ⟨q1, q2⟩ := ins_laws hS h1 h2 p2
  refine ⟨?_, q1, fun x hx => ?_, fun c => ?_⟩
  · rw [hS, List.length_append] at p1
    rw [List.length_append, List.length_cons]; omega
  · rcases List.mem_append.1 hx with hx | hx
    · exact p3 x (by rw [hS]; simp [hx])
    · rcases List.mem_cons.1 hx with rfl | hx
      · exact hf
      · exact p3 x (by rw [hS]; simp [hx])
  · rw [q2 c, p4 c, seg_snoc, List.filter_append]
theorem Upto.sorted {f g : Nat → App} {n : Nat} {S : List App} (h : Upto f n S) (k : Keeps App.call f g 0 n) (s : Sorted App.call g 0 n) : S = seg g 0 n :=
  stable_unique (key := App.call) S (seg g 0 n) h.2.1 (sorted_pairwise s) (fun c => (h.2.2.2 c).trans (k.same c).symm)
end Go.Proofs.Ybulkawey
