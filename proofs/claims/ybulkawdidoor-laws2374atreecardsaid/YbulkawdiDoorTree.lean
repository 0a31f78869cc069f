import Derived.Test.YbulkawdiDoorRows
import Derived.WalkKit
import Derived.ProofKit
import Derived.OpenShut
import Derived.RowKit3
import Derived.Laws.Rows
import Derived.WalkSpells
import Derived.Maps.RangeWalk
namespace Go.Proofs.YbulkawdiDoor
open Go.RowKit

/-! ### Plain words -/
/-- Does the leaf x pass the test? -/
def hitB (m x : Int) : Bool := x.tmod m == 0

/-- A number that an int holds. -/
def In64 (x : Int) : Prop := -9223372036854775808 ≤ x ∧ x ≤ 9223372036854775807

/-- The stamps of a map's entries. -/
def Stamps (es : Array MapEntry) (clock : Nat) : Prop := (∀ x ∈ es.toList, x.born < clock) ∧ (es.toList.map (·.born)).Nodup

/-- The value v is a tree of depth at most n over w, in blocks from lo on; its leaves, in some order, are L. -/
def Leafy (lo : Nat) (w : World) : Nat → Value → List Int → Prop
  | 0, _, _ => False
  | n + 1, v, L =>
    (∃ x, v = .iface 3 (.int .i64 x) ∧ L = [x] ∧ In64 x) ∨
    (∃ (B cap : Nat) (C : Array Value) (Ls : List (List Int)), v = .iface 23 (.slice (some ⟨B, 0, none⟩) Ls.length cap) ∧ lo ≤ B ∧ Ls.length ≤ 1000000 ∧ w.heap[B]? = some (.cells C 20 (0, 0)) ∧ L = Ls.flatten ∧
      ∀ i, i < Ls.length → ∃ u, C[i]? = some u ∧ Leafy lo w n u (Ls.getD i [])) ∨
    (∃ (b clock : Nat) (es : Array MapEntry) (F : MapEntry → List Int), v = .iface 24 (.map (some b)) ∧ lo ≤ b ∧ w.heap[b]? = some (.map es clock) ∧ Stamps es clock ∧ L = es.toList.flatMap F ∧
      ∀ x, x ∈ es.toList → Leafy lo w n x.val (F x))

/-- What the walk over a tree answers: r, and the count of calls goes from c to c'. -/
def Ans (m : Int) (L : List Int) (c c' : Int) (r : Bool) : Prop :=
  r = L.any (hitB m) ∧ (r = false → c' = c + L.length) ∧ (r = true → c + 1 ≤ c' ∧ c' ≤ c + L.length)

/-- The closure's three boxes. -/
def Env (cc bb mm : Nat) (c m : Int) (w : World) : Prop :=
  w.heap[cc]? = some (.cells #[.int .i64 c] 3 (0, 0)) ∧ w.heap[bb]? = some (.cells #[.bool false] 4 (0, 0)) ∧ w.heap[mm]? = some (.cells #[.int .i64 m] 3 (0, 0)) ∧ cc ≠ mm

/-- A tree stays a tree while blocks are made and one block is written that is none of hers. -/
theorem leafy_by {lo : Nat} {w w' : World} {row : Option Nat} (hg : w.grownBy w' row) (hc : ∀ j, row = some j → j < lo ∨ ∃ c, w.heap[j]? = some (.cells #[.int .i64 c] 3 (0, 0))) : ∀ n v L, Leafy lo w n v L → Leafy lo w' n v L
  | 0, _, _, h => h
  | n + 1, v, L, h => by
    rcases h with h | ⟨B, cap, C, Ls, hv, hlo, hl, hB, hL, hi⟩ | ⟨b, clock, es, F, hv, hlo, hb, hst, hL, hi⟩
    · exact .inl h
    · refine .inr (.inl ⟨B, cap, C, Ls, hv, hlo, hl, ?_, hL, fun i hlt => ?_⟩)
      · have hne : some B ≠ row := fun e => by
          rcases hc B e.symm with h | ⟨c, h⟩
          · omega
          · rw [hB] at h; simp at h
        rw [hg.block B (Array.getElem?_eq_some_iff.1 hB).1 hne, hB]
      · obtain ⟨u, h1, h2⟩ := hi i hlt
        exact ⟨u, h1, leafy_by hg hc n _ _ h2⟩
    · refine .inr (.inr ⟨b, clock, es, F, hv, hlo, ?_, hst, hL, fun x hx => leafy_by hg hc n _ _ (hi x hx)⟩)
      have hne : some b ≠ row := fun e => by
        rcases hc b e.symm with h | ⟨c, h⟩
        · omega
        · rw [hb] at h; simp at h
      rw [hg.block b (Array.getElem?_eq_some_iff.1 hb).1 hne, hb]

theorem leafy_kept {lo : Nat} {w w' : World} {cc : Nat} {c : Int} (hg : w.grownBy w' (some cc)) (hc : w.heap[cc]? = some (.cells #[.int .i64 c] 3 (0, 0))) (n : Nat) (v : Value) (L : List Int) (h : Leafy lo w n v L) : Leafy lo w' n v L :=
  leafy_by hg (fun j hj => .inr ⟨c, by cases hj; exact hc⟩) n v L h
theorem leafy_grown {lo : Nat} {w w' : World} (hg : w.grownBy w' none) (n : Nat) (v : Value) (L : List Int) (h : Leafy lo w n v L) : Leafy lo w' n v L :=
  leafy_by hg (fun j hj => by cases hj) n v L h

/-- A deeper bound, a lower first block serve too. -/
theorem leafy_mono {lo : Nat} {w : World} : ∀ n v L, Leafy lo w n v L → Leafy lo w (n + 1) v L
  | 0, _, _, h => h.elim
  | n + 1, v, L, h => by
    rcases h with h | ⟨B, cap, C, Ls, hv, hlo, hl, hB, hL, hi⟩ | ⟨b, clock, es, F, hv, hlo, hb, hst, hL, hi⟩
    · exact .inl h
    · refine .inr (.inl ⟨B, cap, C, Ls, hv, hlo, hl, hB, hL, fun i hlt => ?_⟩)
      obtain ⟨u, h1, h2⟩ := hi i hlt
      exact ⟨u, h1, leafy_mono n _ _ h2⟩
    · exact .inr (.inr ⟨b, clock, es, F, hv, hlo, hb, hst, hL, fun x hx => leafy_mono n _ _ (hi x hx)⟩)
theorem leafy_lo {lo lo' : Nat} (hle : lo' ≤ lo) {w : World} : ∀ n v L, Leafy lo w n v L → Leafy lo' w n v L
  | 0, _, _, h => h.elim
  | n + 1, v, L, h => by
    rcases h with h | ⟨B, cap, C, Ls, hv, hlo, hl, hB, hL, hi⟩ | ⟨b, clock, es, F, hv, hlo, hb, hst, hL, hi⟩
    · exact .inl h
    · refine .inr (.inl ⟨B, cap, C, Ls, hv, by omega, hl, hB, hL, fun i hlt => ?_⟩)
      obtain ⟨u, h1, h2⟩ := hi i hlt
      exact ⟨u, h1, leafy_lo hle n _ _ h2⟩
    · exact .inr (.inr ⟨b, clock, es, F, hv, by omega, hb, hst, hL, fun x hx => leafy_lo hle n _ _ (hi x hx)⟩)

theorem env_kept {cc bb mm : Nat} {c m : Int} {w w' : World} (hE : Env cc bb mm c m w) (hg : w.grownBy w' none) : Env cc bb mm c m w' := by
  obtain ⟨hc, hb, hm, hne⟩ := hE
  exact ⟨by rw [hg.block cc (Array.getElem?_eq_some_iff.1 hc).1 (by simp), hc], by rw [hg.block bb (Array.getElem?_eq_some_iff.1 hb).1 (by simp), hb],
    by rw [hg.block mm (Array.getElem?_eq_some_iff.1 hm).1 (by simp), hm], hne⟩

/-- The count stored. -/
theorem env_store {cc bb mm : Nat} {c m : Int} {w : World} (hE : Env cc bb mm c m w) (c' : Int) : Env cc bb mm c' m (w.setCell ⟨cc, 0, none⟩ (.int .i64 c')) := by
  obtain ⟨hc, hb, hm, hne⟩ := hE
  have hbb : bb ≠ cc := fun e => by subst e; rw [hb] at hc; simp at hc
  exact ⟨by rw [heap_setCell_same w cc 0 _ _ _ hc]; rfl, by rw [heap_setCell_other _ _ _ _ hbb, hb], by rw [heap_setCell_other _ _ _ _ (fun e => hne e.symm), hm], hne⟩

theorem grownBy_refl (w : World) (row : Option Nat) : w.grownBy w row := ⟨rfl, rfl, rfl, Nat.le_refl _, fun _ _ _ => rfl⟩
theorem grownBy_setCell (w : World) (cc : Nat) (v : Value) : w.grownBy (w.setCell ⟨cc, 0, none⟩ v) (some cc) :=
  ⟨rfl, rfl, rfl, by simp [World.setCell], fun k _ hne => heap_setCell_other _ _ _ _ (fun e => hne (by rw [e]))⟩
theorem grownBy_trans {a b c : World} {row : Option Nat} (h : a.grownBy b row) (k : b.grownBy c row) : a.grownBy c row :=
  ⟨k.os.trans h.os, k.tape.trans h.tape, k.output.trans h.output, Nat.le_trans h.size k.size, fun i hi hne => (k.block i (Nat.lt_of_lt_of_le hi h.size) hne).trans (h.block i hi hne)⟩

/-! ### The entries of a map that are still to come -/
/-- How many leaves they have. -/
def toCome (es : List MapEntry) (F : MapEntry → List Int) (seen : Array Nat) : Nat := ((es.filter fun e => !seen.contains e.born).map fun e => (F e).length).sum

theorem toCome_nil (es : List MapEntry) (F : MapEntry → List Int) : toCome es F #[] = (es.flatMap F).length := by
  unfold toCome
  rw [List.filter_eq_self.2 (fun x _ => by simp), List.length_flatMap]

theorem toCome_none : ∀ (es : List MapEntry) (F : MapEntry → List Int) (seen : Array Nat), (∀ x ∈ es, seen.contains x.born = true) → toCome es F seen = 0
  | [], _, _, _ => rfl
  | x :: r, F, seen, h => by
    unfold toCome
    rw [List.filter_cons_of_neg (by rw [h x (by simp)]; simp)]
    exact toCome_none r F seen (fun y hy => h y (by simp [hy]))

theorem toCome_push : ∀ (es : List MapEntry) (F : MapEntry → List Int) (seen : Array Nat) (e : MapEntry), (es.map (·.born)).Nodup → e ∈ es → seen.contains e.born = false →
    toCome es F seen = toCome es F (seen.push e.born) + (F e).length
  | [], _, _, _, _, h, _ => by simp at h
  | x :: r, F, seen, e, hn, he, hs => by
    have hn' : x.born ∉ r.map (·.born) ∧ (r.map (·.born)).Nodup := by simpa using hn
    have other : ∀ y ∈ r, y.born ≠ e.born → (!seen.contains y.born) = !(seen.push e.born).contains y.born := fun y _ hy => by
      rw [Array.contains_push]
      have h2 : (y.born == e.born) = false := by simp [hy]
      simp [h2]
    by_cases hx : x.born = e.born
    · have hxe : x = e := by
        rcases List.mem_cons.1 he with h | h
        · exact h.symm
        · exact absurd (List.mem_map.2 ⟨e, h, hx.symm⟩) hn'.1
      subst hxe
      have e1 : r.filter (fun y => !seen.contains y.born) = r.filter (fun y => !(seen.push x.born).contains y.born) :=
        List.filter_congr (fun y hy => other y hy (fun h => hn'.1 (List.mem_map.2 ⟨y, hy, h⟩)))
      unfold toCome
      rw [List.filter_cons_of_pos (by rw [hs]; rfl), List.filter_cons_of_neg (by simp), e1]
      simp; omega
    · have he' : e ∈ r := by
        rcases List.mem_cons.1 he with h | h
        · exact absurd (by rw [h]) hx
        · exact h
      have ih := toCome_push r F seen e hn'.2 he' hs
      have hb : (!seen.contains x.born) = !(seen.push e.born).contains x.born := by
        rw [Array.contains_push]
        have h2 : (x.born == e.born) = false := by simp [hx]
        simp [h2]
      unfold toCome at ih ⊢
      by_cases hc : seen.contains x.born = true
      · rw [List.filter_cons_of_neg (by rw [hc]; simp), List.filter_cons_of_neg (by rw [← hb, hc]; simp)]
        exact ih
      · have hc' : seen.contains x.born = false := by simpa using hc
        rw [List.filter_cons_of_pos (by rw [hc']; simp), List.filter_cons_of_pos (by rw [← hb, hc']; simp)]
        simp only [List.map_cons, List.sum_cons]
        omega
end Go.Proofs.YbulkawdiDoor
