import Derived.KernelRfl
namespace Go.Proofs.Ybulkawey
/-! ### The plain side of the library's stable sort: rows as functions of an index. No Go in sight. -/
section
variable {α : Type}

/-- The elements from a on, up to b. -/
def seg (f : Nat → α) (a b : Nat) : List α := (List.range' a (b - a)).map f

theorem seg_length (f : Nat → α) (a b : Nat) : (seg f a b).length = b - a := by simp [seg]
theorem seg_self (f : Nat → α) (a : Nat) : seg f a a = [] := by simp [seg]
theorem seg_nil (f : Nat → α) {a b : Nat} (h : b ≤ a) : seg f a b = [] := by simp [seg, show b - a = 0 by omega]
theorem seg_append (f : Nat → α) {a m b : Nat} (h1 : a ≤ m) (h2 : m ≤ b) : seg f a b = seg f a m ++ seg f m b := by
  unfold seg
  rw [← List.map_append]
  congr 1
  have e : b - a = (m - a) + (b - m) := by omega
  rw [e, ← List.range'_append_1]
  congr 2; omega
theorem seg_congr {f g : Nat → α} {a b : Nat} (h : ∀ i, a ≤ i → i < b → g i = f i) : seg g a b = seg f a b := by
  unfold seg
  refine List.map_congr_left fun i hi => ?_
  rw [List.mem_range'_1] at hi
  exact h i hi.1 (by omega)
theorem seg_shift {f g : Nat → α} {a b a' : Nat} (h : ∀ i, a ≤ i → i < b → g (i - a + a') = f i) : seg g a' (a' + (b - a)) = seg f a b := by
  apply List.ext_getElem?
  intro k
  unfold seg
  have e : a' + (b - a) - a' = b - a := by omega
  rw [e, List.getElem?_map, List.getElem?_map]
  by_cases hk : k < b - a
  · rw [List.getElem?_eq_getElem (by simpa using hk), List.getElem?_eq_getElem (by simpa using hk)]
    simp only [List.getElem_range', Option.map_some, Nat.one_mul]
    have := h (a + k) (by omega) (by omega)
    rw [show a + k - a + a' = a' + k by omega] at this
    rw [this]
  · rw [List.getElem?_eq_none (by simp; omega), List.getElem?_eq_none (by simp; omega)]; rfl
theorem mem_seg {f : Nat → α} {a b : Nat} {x : α} : x ∈ seg f a b ↔ ∃ i, a ≤ i ∧ i < b ∧ f i = x := by
  unfold seg
  simp only [List.mem_map, List.mem_range'_1]
  constructor
  · rintro ⟨i, ⟨h1, h2⟩, h3⟩; exact ⟨i, h1, by omega, h3⟩
  · rintro ⟨i, h1, h2, h3⟩; exact ⟨i, ⟨h1, by omega⟩, h3⟩
theorem seg_one (f : Nat → α) (a : Nat) : seg f a (a + 1) = [f a] := by simp [seg]

/-- Two places exchanged. -/
def swp (f : Nat → α) (a b : Nat) : Nat → α := fun i => if i = a then f b else if i = b then f a else f i
/-- Two ranges exchanged, place by place. -/
def swr (f : Nat → α) (a b n : Nat) : Nat → α := fun i => if a ≤ i ∧ i < a + n then f (i - a + b) else if b ≤ i ∧ i < b + n then f (i - b + a) else f i
/-- The neighbours [a, m) and [m, b) change places. -/
def rot (f : Nat → α) (a m b : Nat) : Nat → α := fun i => if a ≤ i ∧ i < a + (b - m) then f (i - a + m) else if a + (b - m) ≤ i ∧ i < b then f (i - (b - m)) else f i

theorem swr_zero (f : Nat → α) (a b : Nat) : swr f a b 0 = f := by
  funext i; unfold swr; rw [if_neg (by omega), if_neg (by omega)]
theorem swr_step (f : Nat → α) {a b k n : Nat} (hab : a + n ≤ b) (hk : k < n) : swp (swr f a b k) (a + k) (b + k) = swr f a b (k + 1) := by
  funext i
  unfold swp swr
  by_cases h1 : i = a + k
  · subst h1
    rw [if_pos rfl, if_neg (by omega), if_neg (by omega), if_pos (by omega)]
    congr 1; omega
  · by_cases h2 : i = b + k
    · subst h2
      rw [if_neg h1, if_pos rfl, if_neg (by omega), if_neg (by omega), if_neg (by omega), if_pos (by omega)]
      congr 1; omega
    · rw [if_neg h1, if_neg h2]
      by_cases h3 : a ≤ i ∧ i < a + k
      · rw [if_pos h3, if_pos (by omega)]
      · by_cases h4 : b ≤ i ∧ i < b + k
        · rw [if_neg h3, if_pos h4, if_neg (by omega), if_pos (by omega)]
        · rw [if_neg h3, if_neg h4, if_neg (by omega), if_neg (by omega)]

theorem rot_left (f : Nat → α) {a b : Nat} : rot f a a b = f := by
  funext i; unfold rot
  by_cases h : a ≤ i ∧ i < a + (b - a)
  · rw [if_pos h]; congr 1; omega
  · rw [if_neg h, if_neg (by omega)]
theorem rot_right (f : Nat → α) {a m : Nat} : rot f a m m = f := by
  funext i; unfold rot
  rw [if_neg (by omega)]
  by_cases h : a + (m - m) ≤ i ∧ i < m
  · rw [if_pos h]; congr 1; omega
  · rw [if_neg h]

/-- The block swap's steps. -/
theorem rot_big (f : Nat → α) {m i j : Nat} (hj : j < i) (hi : i ≤ m) : rot (swr f (m - i) m j) (m - (i - j)) m (m + j) = rot f (m - i) m (m + j) := by
  funext x
  unfold rot swr
  by_cases h1 : x < m - i
  · rw [if_neg (by omega), if_neg (by omega), if_neg (by omega), if_neg (by omega), if_neg (by omega), if_neg (by omega)]
  · by_cases h2 : m + j ≤ x
    · rw [if_neg (by omega), if_neg (by omega), if_neg (by omega), if_neg (by omega), if_neg (by omega), if_neg (by omega)]
    · by_cases h3 : x < m - i + j
      · rw [if_neg (by omega), if_neg (by omega), if_pos (by omega), if_pos (by omega)]
      · by_cases h4 : x < m - (i - j) + (m + j - m)
        · rw [if_pos (by omega)]
          rw [if_neg (by omega), if_pos (by omega), if_neg (by omega), if_pos (by omega)]
          congr 1; omega
        · rw [if_neg (by omega), if_pos (by omega)]
          rw [if_neg (by omega), if_neg (by omega), if_neg (by omega), if_pos (by omega)]
theorem rot_small (f : Nat → α) {m i j : Nat} (hj : i < j) (hi : i ≤ m) : rot (swr f (m - i) (m + j - i) i) (m - i) m (m + (j - i)) = rot f (m - i) m (m + j) := by
  funext x
  unfold rot swr
  by_cases h1 : x < m - i
  · rw [if_neg (by omega), if_neg (by omega), if_neg (by omega), if_neg (by omega), if_neg (by omega), if_neg (by omega)]
  · by_cases h2 : m + j ≤ x
    · rw [if_neg (by omega), if_neg (by omega), if_neg (by omega), if_neg (by omega), if_neg (by omega), if_neg (by omega)]
    · by_cases h3 : m + (j - i) ≤ x
      · rw [if_neg (by omega), if_neg (by omega), if_neg (by omega), if_pos (by omega), if_neg (by omega), if_pos (by omega)]
        congr 1; omega
      · by_cases h4 : x < m - i + (m + (j - i) - m)
        · rw [if_pos (by omega)]
          rw [if_neg (by omega), if_neg (by omega), if_pos (by omega)]
        · rw [if_neg (by omega), if_pos (by omega)]
          rw [if_pos (by omega), if_pos (by omega)]
          congr 1; omega
theorem rot_even (f : Nat → α) {m i : Nat} (hi : i ≤ m) : swr f (m - i) m i = rot f (m - i) m (m + i) := by
  funext x
  unfold rot swr
  by_cases h1 : m - i ≤ x ∧ x < m - i + i
  · rw [if_pos h1, if_pos (by omega)]
  · by_cases h2 : m ≤ x ∧ x < m + i
    · rw [if_neg h1, if_pos h2, if_neg (by omega), if_pos (by omega)]; congr 1; omega
    · rw [if_neg h1, if_neg h2, if_neg (by omega), if_neg (by omega)]

/-- One element moved right, by exchanges of neighbours. -/
theorem rot_first (f : Nat → α) (a k : Nat) (h : a ≤ k) : swp (rot f a (a + 1) (k + 1)) k (k + 1) = rot f a (a + 1) (k + 2) := by
  funext x
  unfold swp rot
  by_cases h1 : x = k
  · subst h1
    rw [if_pos rfl, if_neg (by omega), if_neg (by omega), if_pos (by omega)]
    congr 1; omega
  · rw [if_neg h1]
    by_cases h2 : x = k + 1
    · subst h2
      rw [if_pos rfl]
      by_cases h3 : a = k
      · subst h3
        rw [if_neg (by omega), if_pos (by omega), if_neg (by omega), if_pos (by omega)]
        congr 1; omega
      · rw [if_neg (by omega), if_pos (by omega), if_neg (by omega), if_pos (by omega)]
        congr 1; omega
    · rw [if_neg h2]
      by_cases h3 : a ≤ x ∧ x < a + (k + 1 - (a + 1))
      · rw [if_pos h3, if_pos (by omega)]
      · rw [if_neg h3]
        rw [if_neg (by omega), if_neg (by omega), if_neg (by omega)]
/-- One element moved left. -/
theorem rot_last (f : Nat → α) (k m : Nat) (h : k < m) : swp (rot f (k + 1) m (m + 1)) (k + 1) k = rot f k m (m + 1) := by
  funext x
  unfold swp rot
  by_cases h1 : x = k + 1
  · subst h1
    rw [if_pos rfl, if_neg (by omega), if_neg (by omega), if_neg (by omega), if_pos (by omega)]
    congr 1; omega
  · rw [if_neg h1]
    by_cases h2 : x = k
    · subst h2
      rw [if_pos rfl, if_pos (by omega), if_pos (by omega)]
      congr 1; omega
    · rw [if_neg h2]
      by_cases h3 : k + 2 ≤ x ∧ x < m + 1
      · rw [if_neg (by omega), if_pos (by omega), if_neg (by omega), if_pos (by omega)]
      · rw [if_neg (by omega), if_neg (by omega), if_neg (by omega), if_neg (by omega)]

/-- The four pieces behind a rotation. -/
theorem seg_rot (f : Nat → α) {a s m e b : Nat} (h1 : a ≤ s) (h2 : s ≤ m) (h3 : m ≤ e) (h4 : e ≤ b) :
    seg (rot f s m e) a b = seg f a s ++ seg f m e ++ (seg f s m ++ seg f e b) := by
  rw [seg_append (rot f s m e) h1 (show s ≤ b by omega), seg_append (rot f s m e) (show s ≤ s + (e - m) by omega) (show s + (e - m) ≤ b by omega),
    seg_append (rot f s m e) (show s + (e - m) ≤ e by omega) h4]
  have p1 : seg (rot f s m e) a s = seg f a s := seg_congr fun i hi hi' => by unfold rot; rw [if_neg (by omega), if_neg (by omega)]
  have p2 : seg (rot f s m e) s (s + (e - m)) = seg f m e := seg_shift fun i hi hi' => by
    unfold rot; rw [if_pos (by omega)]; congr 1; omega
  have p3 : seg (rot f s m e) (s + (e - m)) e = seg f s m := by
    have := seg_shift (f := f) (g := rot f s m e) (a := s) (b := m) (a' := s + (e - m)) (fun i hi hi' => by
      unfold rot; rw [if_neg (by omega), if_pos (by omega)]; congr 1; omega)
    rw [show s + (e - m) + (m - s) = e by omega] at this
    exact this
  have p4 : seg (rot f s m e) e b = seg f e b := seg_congr fun i hi hi' => by unfold rot; rw [if_neg (by omega), if_neg (by omega)]
  rw [p1, p2, p3, p4]
  simp
end
end Go.Proofs.Ybulkawey
