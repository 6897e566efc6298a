import Derived.Test.Qxb6003612aRev
import Derived.Test.Qxb6003612aEnds
import Derived.Deep.QuietTactic
import Derived.BigQuiet
namespace Go.Proofs.Qxb6003612a.Rev
open Go.ChangeShapes Go.WideShapes Go.ChangeAt Go.RowKit

/-- the world is as it was but for draws -/
def DrewTo (w w' : World) : Prop := ∃ n, w' = w.drewN n

def manyS (t : Int) : Bool := t == 2 || t == 4
def manyT (t : Int) : Bool := t == 3 || t == 4

theorem manyS_any (t : Int) (w : World) : Calls Try.prog 20 #[.int .i64 t] w fun e w' => e = .returned (.bool (manyS t)) ∧ w' = w := by
  have h : manyS t = (t == 2 || t == 4) := rfl
  rw [h]
  clear h
  by_cases h2 : t = 2
  · subst h2
    go_enter Try.func20, Try.ntmps20
    go_wp2
    go_ret
    exact ⟨rfl, rfl⟩
  · have b2 : (t == 2) = false := beq_eq_false_iff_ne.2 h2
    go_enter Try.func20, Try.ntmps20
    go_wp2
    go_ret
    exact ⟨by rw [b2]; rfl, rfl⟩

theorem manyT_any (t : Int) (w : World) : Calls Try.prog 21 #[.int .i64 t] w fun e w' => e = .returned (.bool (manyT t)) ∧ w' = w := by
  have h : manyT t = (t == 3 || t == 4) := rfl
  rw [h]
  clear h
  by_cases h2 : t = 3
  · subst h2
    go_enter Try.func21, Try.ntmps21
    go_wp2
    go_ret
    exact ⟨rfl, rfl⟩
  · have b2 : (t == 3) = false := beq_eq_false_iff_ne.2 h2
    go_enter Try.func21, Try.ntmps21
    go_wp2
    go_ret
    exact ⟨by rw [b2]; rfl, rfl⟩

theorem many1 (t : Int) (h1 : 1 ≤ t) (h4 : t ≤ 4) : manyS (rtyp t) = manyT t ∧ manyT (rtyp t) = manyS t ∧ 1 ≤ rtyp t ∧ rtyp t ≤ 4 := by
  have : t = 1 ∨ t = 2 ∨ t = 3 ∨ t = 4 := by omega
  rcases this with rfl | rfl | rfl | rfl <;> decide

set_option maxHeartbeats 1000000 in
theorem src1 (b : Nat) (name : ByteArray) (typ : Int) (src tgt : Option Addr) (kin : Option Addr) (tk sk rev lab sub : ByteArray) (w : World) (hA : Assoc w b name typ src tgt 1 kin tk sk rev lab sub) :
    Calls Try.prog 22 #[.pointer (some ⟨b, 0, none⟩)] w fun e w' => e = .returned (.tuple #[.pointer none, .string ⟨#[]⟩, .bool false]) ∧ DrewTo w w' := by
  obtain ⟨c0, c1, c2, c3, c4, c5, c6, c7, c8, c9, c10⟩ := hA
  clear c0 c1 c8 c9 c10
  go_enter Try.func22, Try.ntmps22
  go_wp2
  go_ret3
  exact ⟨rfl, ⟨0, rfl⟩⟩

set_option maxHeartbeats 1000000 in
theorem src2 (b : Nat) (name : ByteArray) (typ : Int) (src tgt : Option Addr) (kin : Option Addr) (tk sk rev lab sub : ByteArray) (w : World) (hA : Assoc w b name typ src tgt 2 kin tk sk rev lab sub) :
    Calls Try.prog 22 #[.pointer (some ⟨b, 0, none⟩)] w fun e w' => e = .returned (.tuple #[.pointer tgt, .string tk, .bool true]) ∧ DrewTo w w' := by
  obtain ⟨c0, c1, c2, c3, c4, c5, c6, c7, c8, c9, c10⟩ := hA
  clear c0 c1 c8 c9 c10
  go_enter Try.func22, Try.ntmps22
  go_wp2
  go_region_held3 (fun w' => w'.cell? ⟨b, 3, none⟩ = some (.pointer tgt) ∧ w'.cell? ⟨b, 6, none⟩ = some (.string tk)) (go_keep) (fail)
  go_wp2
  go_ret3
  exact ⟨rfl, ⟨1, rfl⟩⟩

set_option maxHeartbeats 1000000 in
theorem src3 (b : Nat) (name : ByteArray) (typ : Int) (src tgt : Option Addr) (kin : Option Addr) (tk sk rev lab sub : ByteArray) (w : World) (hA : Assoc w b name typ src tgt 3 kin tk sk rev lab sub) :
    Calls Try.prog 22 #[.pointer (some ⟨b, 0, none⟩)] w fun e w' => e = .returned (.tuple #[.pointer kin, .string sk, .bool true]) ∧ DrewTo w w' := by
  obtain ⟨c0, c1, c2, c3, c4, c5, c6, c7, c8, c9, c10⟩ := hA
  clear c0 c1 c8 c9 c10
  go_enter Try.func22, Try.ntmps22
  go_wp2
  go_region_held3 (fun w' => w'.cell? ⟨b, 5, none⟩ = some (.pointer kin) ∧ w'.cell? ⟨b, 7, none⟩ = some (.string sk)) (go_keep) (fail)
  go_wp2
  go_ret3
  exact ⟨rfl, ⟨1, rfl⟩⟩

set_option maxHeartbeats 1000000 in
theorem src4 (b : Nat) (name : ByteArray) (typ : Int) (src tgt : Option Addr) (kin : Option Addr) (tk sk rev lab sub : ByteArray) (w : World) (hA : Assoc w b name typ src tgt 4 kin tk sk rev lab sub) :
    Calls Try.prog 22 #[.pointer (some ⟨b, 0, none⟩)] w fun e w' => e = .returned (.tuple #[.pointer tgt, .string tk, .bool true]) ∧ DrewTo w w' := by
  obtain ⟨c0, c1, c2, c3, c4, c5, c6, c7, c8, c9, c10⟩ := hA
  clear c0 c1 c8 c9 c10
  go_enter Try.func22, Try.ntmps22
  go_wp2
  go_region_held3 (fun w' => w'.cell? ⟨b, 3, none⟩ = some (.pointer tgt) ∧ w'.cell? ⟨b, 6, none⟩ = some (.string tk)) (go_keep) (fail)
  go_wp2
  go_ret3
  exact ⟨rfl, ⟨1, rfl⟩⟩

set_option maxHeartbeats 1000000 in
theorem tgt1 (b : Nat) (name : ByteArray) (typ : Int) (src tgt : Option Addr) (kin : Option Addr) (tk sk rev lab sub : ByteArray) (w : World) (hA : Assoc w b name typ src tgt 1 kin tk sk rev lab sub) :
    Calls Try.prog 23 #[.pointer (some ⟨b, 0, none⟩)] w fun e w' => e = .returned (.tuple #[.pointer src, .string tk, .bool true]) ∧ DrewTo w w' := by
  obtain ⟨c0, c1, c2, c3, c4, c5, c6, c7, c8, c9, c10⟩ := hA
  clear c0 c1 c8 c9 c10
  go_enter Try.func23, Try.ntmps23
  go_wp2
  go_region_held3 (fun w' => w'.cell? ⟨b, 2, none⟩ = some (.pointer src) ∧ w'.cell? ⟨b, 6, none⟩ = some (.string tk)) (go_keep) (fail)
  go_wp2
  go_ret3
  exact ⟨rfl, ⟨1, rfl⟩⟩

set_option maxHeartbeats 1000000 in
theorem tgt2 (b : Nat) (name : ByteArray) (typ : Int) (src tgt : Option Addr) (kin : Option Addr) (tk sk rev lab sub : ByteArray) (w : World) (hA : Assoc w b name typ src tgt 2 kin tk sk rev lab sub) :
    Calls Try.prog 23 #[.pointer (some ⟨b, 0, none⟩)] w fun e w' => e = .returned (.tuple #[.pointer none, .string ⟨#[]⟩, .bool false]) ∧ DrewTo w w' := by
  obtain ⟨c0, c1, c2, c3, c4, c5, c6, c7, c8, c9, c10⟩ := hA
  clear c0 c1 c8 c9 c10
  go_enter Try.func23, Try.ntmps23
  go_wp2
  go_ret3
  exact ⟨rfl, ⟨0, rfl⟩⟩

set_option maxHeartbeats 1000000 in
theorem tgt3 (b : Nat) (name : ByteArray) (typ : Int) (src tgt : Option Addr) (kin : Option Addr) (tk sk rev lab sub : ByteArray) (w : World) (hA : Assoc w b name typ src tgt 3 kin tk sk rev lab sub) :
    Calls Try.prog 23 #[.pointer (some ⟨b, 0, none⟩)] w fun e w' => e = .returned (.tuple #[.pointer kin, .string tk, .bool true]) ∧ DrewTo w w' := by
  obtain ⟨c0, c1, c2, c3, c4, c5, c6, c7, c8, c9, c10⟩ := hA
  clear c0 c1 c8 c9 c10
  go_enter Try.func23, Try.ntmps23
  go_wp2
  go_region_held3 (fun w' => w'.cell? ⟨b, 5, none⟩ = some (.pointer kin) ∧ w'.cell? ⟨b, 6, none⟩ = some (.string tk)) (go_keep) (fail)
  go_wp2
  go_ret3
  exact ⟨rfl, ⟨1, rfl⟩⟩

set_option maxHeartbeats 1000000 in
theorem tgt4 (b : Nat) (name : ByteArray) (typ : Int) (src tgt : Option Addr) (kin : Option Addr) (tk sk rev lab sub : ByteArray) (w : World) (hA : Assoc w b name typ src tgt 4 kin tk sk rev lab sub) :
    Calls Try.prog 23 #[.pointer (some ⟨b, 0, none⟩)] w fun e w' => e = .returned (.tuple #[.pointer src, .string sk, .bool true]) ∧ DrewTo w w' := by
  obtain ⟨c0, c1, c2, c3, c4, c5, c6, c7, c8, c9, c10⟩ := hA
  clear c0 c1 c8 c9 c10
  go_enter Try.func23, Try.ntmps23
  go_wp2
  go_region_held3 (fun w' => w'.cell? ⟨b, 2, none⟩ = some (.pointer src) ∧ w'.cell? ⟨b, 7, none⟩ = some (.string sk)) (go_keep) (fail)
  go_wp2
  go_ret3
  exact ⟨rfl, ⟨1, rfl⟩⟩

end Go.Proofs.Qxb6003612a.Rev
