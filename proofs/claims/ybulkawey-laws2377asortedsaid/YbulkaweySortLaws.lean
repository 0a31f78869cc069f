import Derived.Test.YbulkaweySortPlain
namespace Go.Proofs.Ybulkawey
set_option linter.unusedVariables false
section
variable {α : Type} (key : α → Int)

/-- In rising order of the key from a on, up to b. -/
def Sorted (f : Nat → α) (a b : Nat) : Prop := ∀ i j, a ≤ i → i < j → j < b → key (f i) ≤ key (f j)

/-- g is f but for a stable rearrangement of [a, b): for each key its elements stand in the same order. -/
structure Keeps (f g : Nat → α) (a b : Nat) : Prop where
  out : ∀ i, (i < a ∨ b ≤ i) → g i = f i
  same : ∀ c, (seg g a b).filter (fun x => key x == c) = (seg f a b).filter (fun x => key x == c)
end

section
variable {α : Type} {key : α → Int}

theorem Keeps.refl (f : Nat → α) (a b : Nat) : Keeps key f f a b := ⟨fun _ _ => rfl, fun _ => rfl⟩
theorem Keeps.trans {f g h : Nat → α} {a b : Nat} (h1 : Keeps key f g a b) (h2 : Keeps key g h a b) : Keeps key f h a b :=
  ⟨fun i hi => (h2.out i hi).trans (h1.out i hi), fun c => (h2.same c).trans (h1.same c)⟩
theorem Keeps.wide {f g : Nat → α} {a b a' b' : Nat} (h : Keeps key f g a b) (h1 : a' ≤ a) (h2 : a ≤ b) (h3 : b ≤ b') : Keeps key f g a' b' := by
  refine ⟨fun i hi => h.out i (by omega), fun c => ?_⟩
  have e1 : seg g a' a = seg f a' a := seg_congr fun i _ hi => h.out i (by omega)
  have e2 : seg g b b' = seg f b b' := seg_congr fun i hi _ => h.out i (by omega)
  rw [seg_append g h1 (show a ≤ b' by omega), seg_append g h2 h3, seg_append f h1 (show a ≤ b' by omega), seg_append f h2 h3]
  simp only [List.filter_append, e1, e2, h.same c]
theorem Keeps.mem {f g : Nat → α} {a b : Nat} (h : Keeps key f g a b) {i : Nat} (h1 : a ≤ i) (h2 : i < b) : ∃ j, a ≤ j ∧ j < b ∧ g i = f j := by
  have hm : g i ∈ (seg g a b).filter (fun x => key x == key (g i)) := List.mem_filter.2 ⟨mem_seg.2 ⟨i, h1, h2, rfl⟩, by simp⟩
  rw [h.same] at hm
  obtain ⟨j, h3, h4, h5⟩ := mem_seg.1 (List.mem_filter.1 hm).1
  exact ⟨j, h3, h4, h5.symm⟩

theorem Sorted.sub {f : Nat → α} {a b a' b' : Nat} (h : Sorted key f a b) (h1 : a ≤ a') (h2 : b' ≤ b) : Sorted key f a' b' :=
  fun i j hi hij hj => h i j (by omega) hij (by omega)
theorem Sorted.congr {f g : Nat → α} {a b : Nat} (h : Sorted key f a b) (e : ∀ i, a ≤ i → i < b → g i = f i) : Sorted key g a b :=
  fun i j hi hij hj => by rw [e i hi (by omega), e j (by omega) hj]; exact h i j hi hij hj
theorem Sorted.le {f : Nat → α} {a b : Nat} (h : Sorted key f a b) {i j : Nat} (h1 : a ≤ i) (h2 : i ≤ j) (h3 : j < b) : key (f i) ≤ key (f j) := by
  rcases Nat.eq_or_lt_of_le h2 with e | e
  · rw [e]; exact Int.le_refl _
  · exact h i j h1 e h3
theorem Sorted.tiny {f : Nat → α} {a b : Nat} (h : b ≤ a + 1) : Sorted key f a b := fun i j _ _ _ => by omega

theorem filter_swap {X Y : List α} (h : ∀ x ∈ X, ∀ y ∈ Y, key y < key x) (c : Int) :
    Y.filter (fun x => key x == c) ++ X.filter (fun x => key x == c) = X.filter (fun x => key x == c) ++ Y.filter (fun x => key x == c) := by
  by_cases hX : X.filter (fun x => key x == c) = []
  · rw [hX]; simp
  · obtain ⟨x, hx⟩ := List.exists_mem_of_ne_nil _ hX
    obtain ⟨hx1, hx2⟩ := List.mem_filter.1 hx
    have hc : key x = c := by simpa using hx2
    have hY : Y.filter (fun x => key x == c) = [] := List.filter_eq_nil_iff.2 fun y hy hyc => by
      have := h x hx1 y hy
      have hyc' : key y = c := by simpa using hyc
      omega
    rw [hY]; simp

/-- A rotation of strictly falling neighbours is stable. -/
theorem rot_keeps {f : Nat → α} {a s m e b : Nat} (h1 : a ≤ s) (h2 : s ≤ m) (h3 : m ≤ e) (h4 : e ≤ b) (hXY : ∀ i j, s ≤ i → i < m → m ≤ j → j < e → key (f j) < key (f i)) :
    Keeps key f (rot f s m e) a b := by
  refine ⟨fun i hi => ?_, fun c => ?_⟩
  · unfold rot; rw [if_neg (by omega), if_neg (by omega)]
  · rw [seg_rot f h1 h2 h3 h4, seg_append f h1 (show s ≤ b by omega), seg_append f h2 (show m ≤ b by omega), seg_append f h3 h4]
    have := filter_swap (key := key) (X := seg f s m) (Y := seg f m e) (fun x hx y hy => by
      obtain ⟨i, i1, i2, rfl⟩ := mem_seg.1 hx
      obtain ⟨j, j1, j2, rfl⟩ := mem_seg.1 hy
      exact hXY i j i1 i2 j1 j2) c
    simp only [List.filter_append, List.append_assoc]
    rw [← List.append_assoc (List.filter _ (seg f m e)), this, List.append_assoc]

theorem rot1 {f : Nat → α} {s m e i : Nat} (h : i < s) : rot f s m e i = f i := by unfold rot; rw [if_neg (by omega), if_neg (by omega)]
theorem rot2 {f : Nat → α} {s m e i : Nat} (h : s ≤ i) (h' : i < s + (e - m)) : rot f s m e i = f (i - s + m) := by unfold rot; rw [if_pos (by omega)]
theorem rot3 {f : Nat → α} {s m e i : Nat} (h : s + (e - m) ≤ i) (h' : i < e) : rot f s m e i = f (i - (e - m)) := by unfold rot; rw [if_neg (by omega), if_pos (by omega)]
theorem rot4 {f : Nat → α} {s m e i : Nat} (h0 : s ≤ m) (h1 : m ≤ e) (h : e ≤ i) : rot f s m e i = f i := by unfold rot; rw [if_neg (by omega), if_neg (by omega)]

/-- Behind the rotation all of the left part is at most all of the right part. -/
theorem rot_cross {f : Nat → α} {a s m e b : Nat} (h1 : a ≤ s) (h2 : s ≤ m) (h3 : m ≤ e) (h4 : e ≤ b) (hL : Sorted key f a m) (hR : Sorted key f m b)
    (hXY : ∀ i j, s ≤ i → i < m → m ≤ j → j < e → key (f j) < key (f i)) (hAR : a < s → e < b → key (f (s - 1)) ≤ key (f e))
    {i j : Nat} (i1 : a ≤ i) (i2 : i < s + (e - m)) (j1 : s + (e - m) ≤ j) (j2 : j < b) : key (rot f s m e i) ≤ key (rot f s m e j) := by
  by_cases hi : i < s
  · rw [rot1 hi]
    by_cases hj : j < e
    · rw [rot3 j1 hj]; exact hL.le i1 (by omega) (by omega)
    · rw [rot4 h2 h3 (by omega)]
      have t1 : key (f i) ≤ key (f (s - 1)) := hL.le i1 (by omega) (by omega)
      have t2 := hAR (by omega) (by omega)
      have t3 : key (f e) ≤ key (f j) := hR.le h3 (by omega) j2
      omega
  · rw [rot2 (by omega) i2]
    by_cases hj : j < e
    · rw [rot3 j1 hj]
      have := hXY (j - (e - m)) (i - s + m) (by omega) (by omega) (by omega) (by omega)
      omega
    · rw [rot4 h2 h3 (by omega)]; exact hR.le (by omega) (by omega) j2

theorem sorted_join {g : Nat → α} {a c b : Nat} (h1 : Sorted key g a c) (h2 : Sorted key g c b) (hx : ∀ i j, a ≤ i → i < c → c ≤ j → j < b → key (g i) ≤ key (g j)) : Sorted key g a b := by
  intro i j hi hij hj
  by_cases h : j < c
  · exact h1 i j hi hij h
  · by_cases h' : i < c
    · exact hx i j hi h' (by omega) hj
    · exact h2 i j (by omega) hij hj

/-- data[a] put into its place in the sorted [a+1, b). -/
theorem merge_first {f : Nat → α} {a i b : Nat} (h1 : a + 1 ≤ i) (h2 : i ≤ b) (hR : Sorted key f (a + 1) b) (hlt : ∀ j, a + 1 ≤ j → j < i → key (f j) < key (f a)) (hge : i < b → key (f a) ≤ key (f i)) :
    Keeps key f (rot f a (a + 1) i) a b ∧ Sorted key (rot f a (a + 1) i) a b := by
  have hXY : ∀ x y, a ≤ x → x < a + 1 → a + 1 ≤ y → y < i → key (f y) < key (f x) := fun x y x1 x2 y1 y2 => by
    obtain rfl : x = a := by omega
    exact hlt y y1 y2
  refine ⟨rot_keeps (Nat.le_refl _) (by omega) h1 h2 hXY, sorted_join (c := a + (i - (a + 1))) ?_ ?_ ?_⟩
  · intro x y x1 xy y2
    rw [rot2 (by omega) (by omega), rot2 (by omega) (by omega)]
    exact hR _ _ (by omega) (by omega) (by omega)
  · intro x y x1 xy y2
    have hx : x = i - 1 ∨ i ≤ x := by omega
    have hy : i ≤ y := by omega
    rw [rot4 (by omega) h1 hy]
    rcases hx with rfl | hx
    · rw [rot3 (by omega) (by omega)]
      have e : i - 1 - (i - (a + 1)) = a := by omega
      rw [e]
      have t1 := hge (by omega)
      have t2 : key (f i) ≤ key (f y) := hR.le (by omega) hy y2
      omega
    · rw [rot4 (by omega) h1 hx]
      exact hR _ _ (by omega) xy y2
  · intro x y x1 x2 y1 y2
    exact rot_cross (Nat.le_refl _) (by omega) h1 h2 (Sorted.tiny (by omega)) hR hXY (fun h => by omega) x1 x2 y1 y2

/-- data[m] put into its place in the sorted [a, m). -/
theorem merge_last {f : Nat → α} {a s m : Nat} (h1 : a ≤ s) (h2 : s ≤ m) (hL : Sorted key f a m) (hlt : ∀ j, s ≤ j → j < m → key (f m) < key (f j)) (hge : a < s → key (f (s - 1)) ≤ key (f m)) :
    Keeps key f (rot f s m (m + 1)) a (m + 1) ∧ Sorted key (rot f s m (m + 1)) a (m + 1) := by
  have hXY : ∀ x y, s ≤ x → x < m → m ≤ y → y < m + 1 → key (f y) < key (f x) := fun x y x1 x2 y1 y2 => by
    obtain rfl : y = m := by omega
    exact hlt x x1 x2
  refine ⟨rot_keeps h1 h2 (by omega) (Nat.le_refl _) hXY, sorted_join (c := s + (m + 1 - m)) ?_ ?_ ?_⟩
  · intro x y x1 xy y2
    rw [rot1 (by omega)]
    by_cases hy : y < s
    · rw [rot1 hy]; exact hL _ _ x1 xy (by omega)
    · obtain rfl : y = s := by omega
      rw [rot2 (Nat.le_refl _) (by omega)]
      have e : y - y + m = m := by omega
      rw [e]
      have t1 : key (f x) ≤ key (f (y - 1)) := hL.le x1 (by omega) (by omega)
      have t2 := hge (by omega)
      omega
  · intro x y x1 xy y2
    rw [rot3 (by omega) (by omega), rot3 (by omega) (by omega)]
    exact hL _ _ (by omega) (by omega) (by omega)
  · intro x y x1 x2 y1 y2
    exact rot_cross h1 h2 (by omega) (Nat.le_refl _) hL (Sorted.tiny (by omega)) hXY (fun _ h => by omega) x1 x2 y1 y2

/-- One step of symMerge: the rotation, then both halves merged. -/
theorem sym_step {f g1 g2 : Nat → α} {a s m e b : Nat} (h1 : a ≤ s) (h2 : s ≤ m) (h3 : m ≤ e) (h4 : e ≤ b) (hL : Sorted key f a m) (hR : Sorted key f m b)
    (hXY : ∀ i j, s ≤ i → i < m → m ≤ j → j < e → key (f j) < key (f i)) (hAR : a < s → e < b → key (f (s - 1)) ≤ key (f e))
    (k1 : Keeps key (rot f s m e) g1 a (s + (e - m))) (s1 : Sorted key g1 a (s + (e - m))) (k2 : Keeps key g1 g2 (s + (e - m)) b) (s2 : Sorted key g2 (s + (e - m)) b) :
    Keeps key f g2 a b ∧ Sorted key g2 a b := by
  refine ⟨(rot_keeps h1 h2 h3 h4 hXY).trans ((k1.wide (Nat.le_refl _) (by omega) (by omega)).trans (k2.wide (by omega) (by omega) (Nat.le_refl _))), sorted_join (c := s + (e - m)) ?_ s2 ?_⟩
  · exact s1.congr fun i _ hi => k2.out i (by omega)
  · intro i j i1 i2 j1 j2
    rw [k2.out i (by omega)]
    obtain ⟨i', i3, i4, e1⟩ := k1.mem i1 i2
    obtain ⟨j', j3, j4, e2⟩ := k2.mem j1 j2
    rw [e1, e2, k1.out j' (by omega)]
    exact rot_cross h1 h2 h3 h4 hL hR hXY hAR i3 i4 j3 j4

theorem rot_sorted_mid {f : Nat → α} {s m e : Nat} (hR : Sorted key f m e) : Sorted key (rot f s m e) s (s + (e - m)) := by
  intro x y x1 xy y2
  rw [rot2 x1 (by omega), rot2 (by omega) y2]
  exact hR _ _ (by omega) (by omega) (by omega)
theorem rot_sorted_left {f : Nat → α} {a s m e : Nat} (hL : Sorted key f a s) : Sorted key (rot f s m e) a s :=
  hL.congr fun i _ hi => rot1 hi
theorem rot_sorted_x {f : Nat → α} {s m e : Nat} (h2 : s ≤ m) (h3 : m ≤ e) (hL : Sorted key f s m) : Sorted key (rot f s m e) (s + (e - m)) e := by
  intro x y x1 xy y2
  rw [rot3 x1 (by omega), rot3 (by omega) y2]
  exact hL _ _ (by omega) (by omega) (by omega)
theorem rot_sorted_right {f : Nat → α} {s m e b : Nat} (h2 : s ≤ m) (h3 : m ≤ e) (hR : Sorted key f e b) : Sorted key (rot f s m e) e b :=
  hR.congr fun i hi _ => rot4 h2 h3 hi

/-! ### The stable order is unique -/
theorem stable_unique : ∀ (l1 l2 : List α), l1.Pairwise (fun x y => key x ≤ key y) → l2.Pairwise (fun x y => key x ≤ key y) → (∀ c, l1.filter (fun x => key x == c) = l2.filter (fun x => key x == c)) → l1 = l2
  | [], l2, _, _, h => by
    cases l2 with
    | nil => rfl
    | cons y r => have := h (key y); simp at this
  | x :: r, l2, p1, p2, h => by
    cases l2 with
    | nil => have := h (key x); simp at this
    | cons y r2 =>
      obtain ⟨q1, q2⟩ := List.pairwise_cons.1 p1
      obtain ⟨q3, q4⟩ := List.pairwise_cons.1 p2
      have hx : x ∈ y :: r2 := by
        have : x ∈ (x :: r).filter (fun z => key z == key x) := List.mem_filter.2 ⟨by simp, by simp⟩
        rw [h] at this
        exact (List.mem_filter.1 this).1
      have hy : y ∈ x :: r := by
        have : y ∈ (y :: r2).filter (fun z => key z == key y) := List.mem_filter.2 ⟨by simp, by simp⟩
        rw [← h] at this
        exact (List.mem_filter.1 this).1
      have k1 : key y ≤ key x := by
        rcases List.mem_cons.1 hx with e | e
        · rw [e]; exact Int.le_refl _
        · exact q3 x e
      have k2 : key x ≤ key y := by
        rcases List.mem_cons.1 hy with e | e
        · rw [e]; exact Int.le_refl _
        · exact q1 y e
      have hk : key x = key y := by omega
      have hxy : x = y := by
        have := h (key x)
        rw [List.filter_cons_of_pos (by simp), List.filter_cons_of_pos (by simp [hk])] at this
        exact (List.cons.inj this).1
      subst hxy
      rw [stable_unique r r2 q2 q4 (fun c => by
        have := h c
        by_cases hc : key x = c
        · rw [List.filter_cons_of_pos (by simp [hc]), List.filter_cons_of_pos (by simp [hc])] at this
          exact (List.cons.inj this).2
        · rw [List.filter_cons_of_neg (by simp [hc]), List.filter_cons_of_neg (by simp [hc])] at this
          exact this)]

theorem sorted_pairwise {f : Nat → α} {a b : Nat} (h : Sorted key f a b) : (seg f a b).Pairwise (fun x y => key x ≤ key y) := by
  rw [List.pairwise_iff_getElem]
  intro i j hi hj hij
  rw [seg_length] at hi hj
  simp only [seg, List.getElem_map, List.getElem_range', Nat.one_mul]
  exact h _ _ (by omega) (by omega) (by omega)
end
end Go.Proofs.Ybulkawey
