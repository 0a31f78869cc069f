import Derived.Test.YbulkaweyRows
import Derived.WalkKit
import Derived.ProofKit
import Derived.OpenShut
import Derived.RowKit3
import Derived.Laws.Rows
namespace Go.Proofs.Ybulkawey
open Go.RowKit

theorem ret_bool {a b : Bool} (h : b = a) : Ending.returned (.bool a) = .returned (.bool b) := by rw [h]

theorem grown_trans {a b c : World} (h1 : Grown a b) (h2 : Grown b c) : Grown a c :=
  ⟨World.keptBut_trans h1.1 h2.1, fun x => (h2.2.1 x).trans (h1.2.1 x), Nat.le_trans h1.2.2 h2.2.2⟩

section
variable {P : Program} {ops : Array Oper} {rest : List Oper} {o : Oper} {a : Act} {w : World} {Q : Exit → Act → World → Prop}
/-- A composite literal, its cells said by the caller. -/
theorem step_build (hg : o.guard = none) (t : TypeId) (parts : Array (Nat × Operand)) (ho : o.op = .build t parts)
    (cells : Array Value) (hf : P.built t (parts.map fun (i, x) => (i, a.eval x)).toList = some cells)
    (h : wpList P ops Q rest (a.put o.dst (.agg cells)) w) : wpList P ops Q (o :: rest) a w := by
  refine wpList_build hg t parts ho (by rw [hf]; rfl) ?_
  rw [hf]
  exact h
theorem setRow_new (w : World) (old cells : Array Value) (t : TypeId) : (w.alloc (.cells old t)).setRow w.heap.size cells = w.alloc (.cells cells t) := by
  have e : (w.heap.push (Obj.cells old t)).modify w.heap.size (fun | .cells _ elem frozen => .cells cells elem frozen | o => o) = w.heap.push (.cells cells t) := by
    apply Array.ext_getElem?
    intro i
    simp only [Array.getElem?_modify, Array.getElem?_push]
    by_cases h : w.heap.size = i
    · subst h; simp
    · simp [h, show ¬ i = w.heap.size from fun e => h e.symm]
  unfold World.setRow World.alloc
  exact congrArg (fun hp => { w with heap := hp }) e
end

/-- zzs2377bpick hands back some string; nothing else turns. -/
theorem pick_any (x : Int) (h0 : 0 ≤ x) (h1 : x ≤ 255) (f : ByteArray) (w : World) :
    Calls Yba.prog 13 #[.int .u8 x, .string f] w fun e w' =>
      (∃ s, e = .returned (.string s)) ∧ w = w' := by
  go_enter Yba.func13, Yba.ntmps13
  go_wp2
  all_goals (go_ret; exact ⟨⟨_, rfl⟩, rfl⟩)

/-- f is "get". -/
def isG (f : ByteArray) : Bool := f.toList == [103, 101, 116]
/-- f is "put". -/
def isP (f : ByteArray) : Bool := f.toList == [112, 117, 116]
/-- f is "append". -/
def isA (f : ByteArray) : Bool := f.toList == [97, 112, 112, 101, 110, 100]

/-- The cells of an Operation. -/
def opn (pr : Int) (f : ByteArray) (ver call ret : Int) : Array Value :=
  #[.int .i64 pr, .nilIface, .string f, .nilIface, .nilIface, .int .i64 ver, .int .u8 0, .int .i64 call, .int .i64 ret]
theorem opn_f (pr : Int) (f : ByteArray) (ver call ret : Int) (h : 2 < (opn pr f ver call ret).size) : (opn pr f ver call ret)[2] = .string f := rfl
theorem opn_size (pr : Int) (f : ByteArray) (ver call ret : Int) : (opn pr f ver call ret).size = 9 := rfl
theorem opn_one (pr : Int) (f : ByteArray) (ver call ret : Int) : (opn pr f ver call ret).all (·.oneCell') = true := by kernel_rfl
theorem zero44 (w : World) : (zeroValue 44).run Yba.prog w = .ok (.agg (opn 0 ByteArray.empty 0 0 0)) w := by kernel_rfl
theorem size44 (pr : Int) (f : ByteArray) (ver call ret : Int) : (Yba.prog.info? 44).map (·.size) = some (opn pr f ver call ret).size := by kernel_rfl

/-- KV.Accesses. -/
theorem acc_any (pr : Int) (f : ByteArray) (ver call ret : Int) (w : World) :
    Calls Yba.prog 14 #[.agg #[], .agg (opn pr f ver call ret)] w fun e w' =>
      e = .returned (.tuple #[.bool (isG f || isA f), .bool (isP f || isA f)]) ∧ Grown w w' := by
  have hf := opn_f
  have hs := opn_size
  by_cases hg : f.toList = [103, 101, 116]
  · have e1 : isG f = true := by simp [isG, hg]
    have e2 : isP f = false := by simp [isP, hg]
    have e3 : isA f = false := by simp [isA, hg]
    go_enter Yba.func14, Yba.ntmps14
    go_wp2
    go_ret2
    exact ⟨by rw [e1, e2, e3]; rfl, by repeat (first | exact Grown.refl _ | apply Grown.drew | apply Grown.alloc)⟩
  · by_cases hp : f.toList = [112, 117, 116]
    · have e1 : isG f = false := by simp [isG, hg]
      have e2 : isP f = true := by simp [isP, hp]
      have g1 : (f.toList == [103, 101, 116]) = false := e1
      have e3 : isA f = false := by simp [isA, hp]
      go_enter Yba.func14, Yba.ntmps14
      go_wp2
      go_ret2
      exact ⟨by rw [e1, e2, e3]; rfl, by repeat (first | exact Grown.refl _ | apply Grown.drew | apply Grown.alloc)⟩
    · by_cases ha : f.toList = [97, 112, 112, 101, 110, 100]
      · have e1 : isG f = false := by simp [isG, hg]
        have e2 : isP f = false := by simp [isP, hp]
        have e3 : isA f = true := by simp [isA, ha]
        have g1 : (f.toList == [103, 101, 116]) = false := e1
        have g2 : (f.toList == [112, 117, 116]) = false := e2
        go_enter Yba.func14, Yba.ntmps14
        go_wp2
        go_ret2
        exact ⟨by rw [e1, e2, e3]; rfl, by repeat (first | exact Grown.refl _ | apply Grown.drew | apply Grown.alloc)⟩
      · have e1 : isG f = false := by simp [isG, hg]
        have e2 : isP f = false := by simp [isP, hp]
        have e3 : isA f = false := by simp [isA, ha]
        have g1 : (f.toList == [103, 101, 116]) = false := e1
        have g2 : (f.toList == [112, 117, 116]) = false := e2
        have g3 : (f.toList == [97, 112, 112, 101, 110, 100]) = false := e3
        go_enter Yba.func14, Yba.ntmps14
        go_wp2
        go_ret2
        exact ⟨by rw [e1, e2, e3]; rfl, by repeat (first | exact Grown.refl _ | apply Grown.drew | apply Grown.alloc)⟩

/-- KV.echoes. -/
theorem echoes_any (f : ByteArray) (w : World) :
    Calls Yba.prog 15 #[.agg #[], .string f] w fun e w' =>
      e = .returned (.bool (isP f || isA f)) ∧ Grown w w' := by
  by_cases hp : f.toList = [112, 117, 116]
  · have e2 : Hid (isP f = true) := by simp [isP, hp, Hid]
    go_enter Yba.func15, Yba.ntmps15
    go_wp2
    go_ret
    exact ⟨ret_bool (by simp [e2.out]), by repeat (first | exact Grown.refl _ | apply Grown.drew | apply Grown.alloc)⟩
  · have e2 : Hid (isP f = false) := by simp [isP, hp, Hid]
    have g2 : (f.toList == [112, 117, 116]) = false := e2
    go_enter Yba.func15, Yba.ntmps15
    go_wp2
    go_ret
    exact ⟨ret_bool (by rw [e2.out]; rfl), by repeat (first | exact Grown.refl _ | apply Grown.drew | apply Grown.alloc)⟩

/-! The two laws' walks -/
set_option maxHeartbeats 400000 in
theorem table_walk (x : Int) (h0 : 0 ≤ x) (h1 : x ≤ 255) (r : ByteArray) (pr ver call ret : Int) (w : World) :
    Calls Yba.prog 5 #[.int .u8 x, .string r, .int .i64 pr, .int .i64 ver, .int .i64 call, .int .i64 ret] w fun e w' =>
      e = .returned (.bool true) ∧ Grown w w' := by
  have hz := zero44
  go_enter Yba.func5, Yba.ntmps5
  go_wp2_with fail
  refine (pick_any x h0 h1 r _).mono ?_
  rintro e w1 ⟨⟨f, rfl⟩, rfl⟩
  go_wp2_with (first
    | (refine step_build rfl 44 _ rfl (opn pr f ver call ret) (by kernel_rfl) ?_)
    | (refine step_build rfl 47 _ rfl #[] (by kernel_rfl) ?_)
    | (refine wpList_store_row rfl 44 _ _ rfl _ (opn pr f ver call ret) rfl rfl 44 (opn 0 ByteArray.empty 0 0 0) (heap_alloc_new _ _) (size44 _ _ _ _ _) rfl (opn_one _ _ _ _ _) ?_; rw [setRow_new])
    | (refine wpList_load_row rfl 44 _ rfl _ rfl 44 (opn pr f ver call ret) (0, 0) _ (heap_alloc_new _ _) Yba.underlying44 rfl (size44 _ _ _ _ _) ?_))
  refine (acc_any _ _ _ _ _ _).mono ?_
  rintro e w2 ⟨rfl, hg⟩
  have HG : Hid (Grown w w2) := grown_trans ((Grown.refl _).alloc _ _) hg
  clear hg hz
  rcases hG : isG f with _ | _
  · rcases hP : isP f with _ | _
    · have g1 : (f.toList == [103, 101, 116]) = false := hG
      have g2 : (f.toList == [112, 117, 116]) = false := hP
      have g3 : (f.toList == [97, 112, 112, 101, 110, 100]) = isA f := rfl
      clear hG hP
      go_wp2
      go_ret
      exact ⟨ret_bool (by simp), HG.out⟩
    · have g1 : (f.toList == [103, 101, 116]) = false := hG
      have g2 : (f.toList == [112, 117, 116]) = true := hP
      have g3 : (f.toList == [97, 112, 112, 101, 110, 100]) = isA f := rfl
      clear hG hP
      go_wp2
      go_ret
      exact ⟨ret_bool (by simp), HG.out⟩
  · rcases hP : isP f with _ | _
    · have g1 : (f.toList == [103, 101, 116]) = true := hG
      have g2 : (f.toList == [112, 117, 116]) = false := hP
      have g3 : (f.toList == [97, 112, 112, 101, 110, 100]) = isA f := rfl
      clear hG hP
      go_wp2
      go_ret
      exact ⟨ret_bool (by simp), HG.out⟩
    · exfalso
      simp only [isG, isP, beq_iff_eq] at hG hP
      rw [hG] at hP
      simp at hP

set_option maxHeartbeats 400000 in
theorem echo_walk (x : Int) (h0 : 0 ≤ x) (h1 : x ≤ 255) (r : ByteArray) (w : World) :
    Calls Yba.prog 6 #[.int .u8 x, .string r] w fun e w' =>
      e = .returned (.bool true) ∧ Grown w w' := by
  go_enter Yba.func6, Yba.ntmps6
  go_wp2_with fail
  refine (pick_any x h0 h1 r _).mono ?_
  rintro e w1 ⟨⟨f, rfl⟩, rfl⟩
  go_wp2_with (first
    | (refine step_build rfl 44 _ rfl (opn 0 f 0 0 0) (by kernel_rfl) ?_)
    | (refine step_build rfl 47 _ rfl #[] (by kernel_rfl) ?_))
  refine (acc_any _ _ _ _ _ _).mono ?_
  rintro e w2 ⟨rfl, hg⟩
  go_wp2_with (refine step_build rfl 47 _ rfl #[] (by kernel_rfl) ?_)
  refine (echoes_any f _).mono ?_
  rintro e w3 ⟨rfl, hg3⟩
  have HG : Hid (Grown w w3) := grown_trans hg hg3
  clear hg hg3
  rcases hA : (isP f || isA f) with _ | _
  · rcases hG : isG f with _ | _
    · have hA' : isA f = false := by revert hA; cases isP f <;> cases isA f <;> simp
      have g1 : (f.toList == [103, 101, 116]) = false := hG
      have g3 : (f.toList == [97, 112, 112, 101, 110, 100]) = false := hA'
      rw [hA']
      clear hG hA
      go_wp2
      go_ret
      exact ⟨rfl, HG.out⟩
    · have g1 : (f.toList == [103, 101, 116]) = true := hG
      have g4 : (f.toList != [103, 101, 116]) = false := by simp [bne, g1]
      clear hG hA
      go_wp2
      all_goals (go_ret; exact ⟨rfl, HG.out⟩)
  · clear hA
    rcases (isG f || isA f) with _ | _
    all_goals (go_wp2; go_ret; exact ⟨rfl, HG.out⟩)
end Go.Proofs.Ybulkawey
