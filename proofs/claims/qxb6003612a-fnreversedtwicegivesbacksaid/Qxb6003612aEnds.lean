import Derived.Test.Qxb6003612aRows
import Derived.WalkKit
import Derived.ProofKit
import Derived.OpenShut
import Derived.ShutString
import Derived.Outline
import Derived.WalkSpells
import Derived.WalkLawsBesides
import Derived.Below
import Derived.LaidEqlPtr
import Derived.Lib.Builder
namespace Go.Proofs.Qxb6003612a.Rev
open Go.ChangeShapes Go.WideShapes Go.ChangeAt Go.RowKit

/-- it returned a bool -/
def BoolAny (e : Ending) : Prop := ∃ b : Bool, e = .returned (.bool b)
theorem BoolAny.mk (b : Bool) : BoolAny (.returned (.bool b)) := ⟨b, rfl⟩

theorem info57 : ∃ j, Try.prog.info? 57 = some j ∧ j.size ≠ 0 := by
  have h : (Try.prog.info? 57).map (fun i => decide (i.size ≠ 0)) = some true := by kernel_rfl
  cases hi : Try.prog.info? 57 with
  | none => rw [hi] at h; cases h
  | some j => rw [hi] at h; simp at h; exact ⟨j, rfl, h⟩

/-- one pointer held against itself -/
theorem eql_same (w : World) (p : Option Addr) : (binOp .eql 26 (.pointer p) (.pointer p)).run Try.prog w = .ok (.bool true) w := by
  obtain ⟨j, hj, _⟩ := info57
  cases p with
  | none =>
    have h : ∀ d : Nat, (Op.equalIn (d + 1) 26 (.pointer none) (.pointer none)).run Try.prog w = .ok true w := fun d => by
      simp [Op.equalIn, run_underlying Try.underlying26]
    simp only [binOp]
    simp [Op.equal, Op.maxDepth, h 9999]
  | some a => exact run_eql_ptr_same w a Try.underlying26 hj

theorem neq_same (w : World) (p : Option Addr) : (binOp .neq 26 (.pointer p) (.pointer p)).run Try.prog w = .ok (.bool false) w := by
  obtain ⟨j, hj, _⟩ := info57
  cases p with
  | none =>
    have h : ∀ d : Nat, (Op.equalIn (d + 1) 26 (.pointer none) (.pointer none)).run Try.prog w = .ok true w := fun d => by
      simp [Op.equalIn, run_underlying Try.underlying26]
    simp only [binOp]
    simp [Op.equal, Op.maxDepth, h 9999]
  | some a => exact Lib.run_neq_ptr_same w a Try.underlying26 hj

theorem neq_none (w : World) (a : Addr) : (binOp .neq 26 (.pointer none) (.pointer (some a))).run Try.prog w = .ok (.bool true) w := by
  have h : ∀ d : Nat, (Op.equalIn (d + 1) 26 (.pointer none) (.pointer (some a))).run Try.prog w = .ok false w := fun d => by
    simp [Op.equalIn, run_underlying Try.underlying26]
  simp only [binOp]
  simp [Op.equal, Op.maxDepth, h 9999]

theorem neq_other (w : World) {a b : Addr} {ca cb : Array Value} {ta tb : TypeId} (hne : a ≠ b) (ha : w.heap[a.block]? = some (.cells ca ta (0, 0))) (hb : w.heap[b.block]? = some (.cells cb tb (0, 0))) :
    (binOp .neq 26 (.pointer (some a)) (.pointer (some b))).run Try.prog w = .ok (.bool true) w := by
  obtain ⟨j, hj, hsz⟩ := info57
  have h : ∀ d : Nat, (Op.equalIn (d + 1) 26 (.pointer (some a)) (.pointer (some b))).run Try.prog w = .ok false w := fun d => by
    simp [Op.equalIn, run_underlying Try.underlying26, sizeOf, typeInfo, hj, hsz, run_sameAddr_other w hne ha hb]
  simp only [binOp]
  simp [Op.equal, Op.maxDepth, h 9999]

theorem neq_two (w : World) (c1 c2 : Array Value) :
    (binOp .neq 26 (.pointer (some ⟨w.heap.size + 1, 0, none⟩)) (.pointer (some ⟨w.heap.size, 0, none⟩))).run Try.prog ((w.alloc (.cells c1 57)).alloc (.cells c2 57)) = .ok (.bool true) ((w.alloc (.cells c1 57)).alloc (.cells c2 57)) := by
  have h1 : ((w.alloc (.cells c1 57)).alloc (.cells c2 57)).heap[w.heap.size]? = some (.cells c1 57 (0, 0)) := by
    rw [Lib.alloc_old _ _ _ (by simp)]; exact heap_alloc_new w _
  have h2 : ((w.alloc (.cells c1 57)).alloc (.cells c2 57)).heap[w.heap.size + 1]? = some (.cells c2 57 (0, 0)) := by
    have := heap_alloc_new (w.alloc (.cells c1 57)) (.cells c2 57)
    simpa using this
  exact neq_other _ (by simp) h2 h1

theorem neq_three (w : World) (c1 c2 c3 : Array Value) :
    (binOp .neq 26 (.pointer (some ⟨w.heap.size + 1 + 1, 0, none⟩)) (.pointer (some ⟨w.heap.size, 0, none⟩))).run Try.prog (((w.alloc (.cells c1 57)).alloc (.cells c2 57)).alloc (.cells c3 57)) = .ok (.bool true) (((w.alloc (.cells c1 57)).alloc (.cells c2 57)).alloc (.cells c3 57)) := by
  have h1 : (((w.alloc (.cells c1 57)).alloc (.cells c2 57)).alloc (.cells c3 57)).heap[w.heap.size]? = some (.cells c1 57 (0, 0)) := by
    rw [Lib.alloc_old _ _ _ (by simp; omega), Lib.alloc_old _ _ _ (by simp)]; exact heap_alloc_new w _
  have h2 : (((w.alloc (.cells c1 57)).alloc (.cells c2 57)).alloc (.cells c3 57)).heap[w.heap.size + 1 + 1]? = some (.cells c3 57 (0, 0)) := by
    have := heap_alloc_new ((w.alloc (.cells c1 57)).alloc (.cells c2 57)) (.cells c3 57)
    simpa using this
  exact neq_other _ (by simp) h2 h1

/-- three pointers, the first two not nil; the third is the first, or is told apart from it -/
def Ends (e : Ending) (w' : World) : Prop := ∃ (s t : Addr) (kin : Option Addr), e = .returned (.tuple #[.pointer (some s), .pointer (some t), .pointer kin]) ∧
  (kin = some s ∨ (binOp .neq 26 (.pointer kin) (.pointer (some s))).run Try.prog w' = .ok (.bool true) w')

set_option maxHeartbeats 1000000 in
theorem bytes16_any (a0 a1 : ByteArray) (a2 a3 : Int) (a4 a5 a6 a7 : ByteArray) (a8 : Bool) (a9 : Int) (w : World) (w0 : a0.size ≤ maxLen) (w1 : a1.size ≤ maxLen) (w4 : a4.size ≤ maxLen) (w5 : a5.size ≤ maxLen) (w6 : a6.size ≤ maxLen) (w7 : a7.size ≤ maxLen) :
    Calls Try.prog 16 #[.string a0, .string a1, .int .i64 a2, .int .i64 a3, .string a4, .string a5, .string a6, .string a7, .bool a8, .int .i64 a9] w fun e w' => BoolAny e ∧ w' = w := by
  unfold maxLen at w0 w1 w4 w5 w6 w7
  go_enter Try.func16, Try.ntmps16
  go_wp2
  all_goals
    go_ret
    exact ⟨BoolAny.mk _, rfl⟩

set_option maxHeartbeats 1000000 in
theorem bytes19_any (a0 a1 : ByteArray) (a2 a3 : Int) (a4 a5 : ByteArray) (a8 : Bool) (a9 : Int) (w : World) (w0 : a0.size ≤ maxLen) (w1 : a1.size ≤ maxLen) (w4 : a4.size ≤ maxLen) (w5 : a5.size ≤ maxLen) :
    Calls Try.prog 19 #[.string a0, .string a1, .int .i64 a2, .int .i64 a3, .string a4, .string a5, .bool a8, .int .i64 a9] w fun e w' => BoolAny e ∧ w' = w := by
  unfold maxLen at w0 w1 w4 w5
  go_enter Try.func19, Try.ntmps19
  go_wp2
  all_goals
    go_ret
    exact ⟨BoolAny.mk _, rfl⟩

set_option maxHeartbeats 1000000 in
theorem ends_any (self : Bool) (ki : Int) (w : World) :
    Calls Try.prog 17 #[.bool self, .int .i64 ki] w fun e w' => Ends e w' ∧ Below w.heap.size w w' := by
  have hk : ki = 1 ∨ ki = 2 ∨ ki = 3 ∨ ((ki == 1) = false ∧ (ki == 2) = false ∧ (ki == 3) = false) := by
    by_cases h1 : ki = 1
    · exact Or.inl h1
    · by_cases h2 : ki = 2
      · exact Or.inr (Or.inl h2)
      · by_cases h3 : ki = 3
        · exact Or.inr (Or.inr (Or.inl h3))
        · exact Or.inr (Or.inr (Or.inr ⟨beq_eq_false_iff_ne.2 h1, beq_eq_false_iff_ne.2 h2, beq_eq_false_iff_ne.2 h3⟩))
  rcases hk with rfl | rfl | rfl | ⟨k1, k2, k3⟩
  all_goals
    cases self
    all_goals
      go_enter Try.func17, Try.ntmps17
      go_wp2
      go_ret3
      refine ⟨⟨_, _, _, rfl, ?_⟩, by repeat (first | exact Below.refl _ _ | (refine Below.alloc ?_ (by simp <;> omega) _))⟩
      first
        | exact Or.inl rfl
        | exact Or.inr (neq_none _ _)
        | exact Or.inr (neq_two _ _ _)
        | exact Or.inr (neq_three _ _ _ _)
end Go.Proofs.Qxb6003612a.Rev
