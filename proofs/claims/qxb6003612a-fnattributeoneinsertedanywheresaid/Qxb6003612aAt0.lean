import Derived.Test.Qxb6003612aRows
import Derived.WalkKit
import Derived.ProofKit
import Derived.OpenShut
import Derived.ShutString
import Derived.Outline
import Derived.WalkSpells
import Derived.WalkLawsBesides
import Derived.Below
namespace Go.Proofs.Qxb6003612a.At
open Go.ChangeShapes Go.WideShapes Go.ChangeAt Go.RowKit

/-- an attribute as the law draws it -/
structure ZA where
  nm : ByteArray
  sc : Int
  li : Bool
  de : ByteArray
  ge : Bool
  un : Bool
  pw : ByteArray
  mi : ByteArray

def ZA.val (z : ZA) : Value := .agg #[.string z.nm, .int .i64 z.sc, .bool z.li, .string z.de, .bool z.ge, .bool z.un, .string z.pw, .string z.mi]
def ZA.att (z : ZA) : Value := .agg #[.string z.nm, .int .i64 z.sc, .bool z.li, .string z.de, .bool z.ge, .pointer none, .bool z.un, .string z.pw, .string z.mi]


/-- '==' on two attributes -/
def ZA.eqv (z y : ZA) : Bool := z.nm.toList == y.nm.toList && (z.sc == y.sc && z.li == y.li) && z.de.toList == y.de.toList && z.ge == y.ge && z.un == y.un && z.pw.toList == y.pw.toList && z.mi.toList == y.mi.toList

theorem stood32 : Try.prog.stoodInHeld 32 = false := by kernel_rfl
theorem stood30 : Try.prog.stoodInHeld 30 = false := by kernel_rfl
theorem guard32 : Try.prog.eqGuardType Try.prog.depth 32 = false := by kernel_rfl
theorem fields32 : Try.prog.underlying 32 = some (.struct (Try.prog.fieldsOf 32)) := by kernel_rfl
theorem fields30 : Try.prog.underlying 30 = some (.struct (Try.prog.fieldsOf 30)) := by kernel_rfl

theorem nil_eq (d : Nat) (w : World) : (Op.equalIn (d + 1) 26 (.pointer none) (.pointer none)).run Try.prog w = .ok true w := by
  simp [Op.equalIn, run_underlying Try.underlying26]

theorem eql_att (z y : ZA) (w : World) : (binOp .eql 32 z.att y.att).run Try.prog w = .ok (.bool (z.eqv y)) w := by
  have hn := nil_eq 9998 w
  unfold ZA.att
  rw [run_eql_struct, show (10000 : Nat) = 9999 + 1 from rfl, run_equalIn_struct _ _ _ _ _ fields32 stood32]
  go_simp
  unfold ZA.eqv
  clear hn
  by_cases h1 : z.nm.toList = y.nm.toList <;> simp [h1]
  by_cases h2 : z.sc = y.sc <;> simp [h2]
  by_cases h3 : z.li = y.li <;> simp [h3]
  by_cases h4 : z.de.toList = y.de.toList <;> simp [h4]
  by_cases h5 : z.ge = y.ge <;> simp [h5]
  by_cases h6 : z.un = y.un <;> simp [h6]
  by_cases h7 : z.pw.toList = y.pw.toList <;> simp [h7]
  by_cases h8 : z.mi.toList = y.mi.toList <;> simp [h8]

theorem neq_att (z y : ZA) (w : World) : (binOp .neq 32 z.att y.att).run Try.prog w = .ok (.bool (!z.eqv y)) w := by
  have h := eql_att z y w
  unfold ZA.att at h ⊢
  rw [run_eql_struct] at h
  rw [run_neq_struct]
  generalize (Op.equalIn 10000 32 _ _).run Try.prog w = r at h ⊢
  cases r with
  | ok b w' => simp [Result.andThen] at h ⊢; obtain ⟨h1, h2⟩ := h; subst h2; exact ⟨by rw [h1], rfl⟩
  | halt e w' => simp [Result.andThen] at h

theorem toList_inj {a b : ByteArray} (h : a.toList = b.toList) : a = b := by
  rw [ByteArray.toList_eq, ByteArray.toList_eq] at h
  cases a; cases b; simp at h; simpa using h

theorem ZA.eqv_iff (z y : ZA) : z.eqv y = true ↔ z = y := by
  constructor
  · intro h
    unfold ZA.eqv at h
    simp only [Bool.and_eq_true, beq_iff_eq] at h
    obtain ⟨⟨⟨⟨⟨⟨h1, h2, h3⟩, h4⟩, h5⟩, h6⟩, h7⟩, h8⟩ := h
    cases z; cases y
    simp only at h1 h2 h3 h4 h5 h6 h7 h8
    rw [toList_inj h1, h2, h3, toList_inj h4, h5, h6, toList_inj h7, toList_inj h8]
  · intro h
    subst h
    simp [ZA.eqv]

/-- the bytes of its strings -/
def ZA.len (z : ZA) : Nat := z.nm.size + z.de.size + z.pw.size + z.mi.size
def tot (zs : List ZA) : Nat := (zs.map ZA.len).sum

theorem tot_take_succ (zs : List ZA) (k : Nat) (z : ZA) (h : zs[k]? = some z) : tot (zs.take (k + 1)) = tot (zs.take k) + z.len := by
  unfold tot
  rw [List.take_add_one, h]; simp

theorem tot_split (zs : List ZA) (k : Nat) : tot zs = tot (zs.take k) + tot (zs.drop k) := by
  unfold tot
  rw [← List.sum_append, ← List.map_append, List.take_append_drop]

theorem len_le (zs : List ZA) (k : Nat) (z : ZA) (h : zs[k]? = some z) : z.len ≤ tot zs := by
  have h1 := tot_take_succ zs k z h
  have h2 := tot_split zs (k + 1)
  omega

theorem at_lt {α : Type} (xs : List α) (k n : Nat) (h : xs.length = n) (hk : k < n) : ∃ x, xs[k]? = some x :=
  ⟨_, List.getElem?_eq_getElem (by rw [h]; exact hk)⟩

theorem hide {p : Prop} (h : p) : Hid p := h

theorem cell_lt {w : World} {a : Addr} {v : Value} (h : w.cell? a = some v) : a.block < w.heap.size := by
  unfold World.cell? at h
  by_cases hb : a.block < w.heap.size
  · exact hb
  · rw [Array.getElem?_eq_none (by omega)] at h
    simp at h

/-- the eight cells of one attribute as the law draws it -/
structure At8 (w : World) (b o : Nat) (z : ZA) : Prop where
  c0 : w.cell? ⟨b, o, none⟩ = some (.string z.nm)
  c1 : w.cell? ⟨b, o + 1, none⟩ = some (.int .i64 z.sc)
  c2 : w.cell? ⟨b, o + 2, none⟩ = some (.bool z.li)
  c3 : w.cell? ⟨b, o + 3, none⟩ = some (.string z.de)
  c4 : w.cell? ⟨b, o + 4, none⟩ = some (.bool z.ge)
  c5 : w.cell? ⟨b, o + 5, none⟩ = some (.bool z.un)
  c6 : w.cell? ⟨b, o + 6, none⟩ = some (.string z.pw)
  c7 : w.cell? ⟨b, o + 7, none⟩ = some (.string z.mi)

/-- the nine cells of one attribute of the model's -/
structure At9 (w : World) (b o : Nat) (z : ZA) : Prop where
  c0 : w.cell? ⟨b, o, none⟩ = some (.string z.nm)
  c1 : w.cell? ⟨b, o + 1, none⟩ = some (.int .i64 z.sc)
  c2 : w.cell? ⟨b, o + 2, none⟩ = some (.bool z.li)
  c3 : w.cell? ⟨b, o + 3, none⟩ = some (.string z.de)
  c4 : w.cell? ⟨b, o + 4, none⟩ = some (.bool z.ge)
  c5 : w.cell? ⟨b, o + 5, none⟩ = some (.pointer none)
  c6 : w.cell? ⟨b, o + 6, none⟩ = some (.bool z.un)
  c7 : w.cell? ⟨b, o + 7, none⟩ = some (.string z.pw)
  c8 : w.cell? ⟨b, o + 8, none⟩ = some (.string z.mi)

/-- a slice of them -/
def Attrs (w : World) (a : Option Addr) (zs : List ZA) : Prop :=
  ∀ (k : Nat) (z : ZA), zs[k]? = some z → ∃ bk off, a = some ⟨bk, off, none⟩ ∧ At8 w bk (off + k * 8) z

theorem At8.below {w w' : World} {b o B : Nat} {z : ZA} (h : At8 w b o z) (hb : Below B w w') (hB : b < B) : At8 w' b o z := by
  have key : ∀ i, w'.cell? ⟨b, i, none⟩ = w.cell? ⟨b, i, none⟩ := fun i => hb.cell (p := ⟨b, i, none⟩) hB
  exact ⟨(key _).trans h.c0, (key _).trans h.c1, (key _).trans h.c2, (key _).trans h.c3, (key _).trans h.c4, (key _).trans h.c5, (key _).trans h.c6, (key _).trans h.c7⟩

theorem At9.below {w w' : World} {b o B : Nat} {z : ZA} (h : At9 w b o z) (hb : Below B w w') (hB : b < B) : At9 w' b o z := by
  have key : ∀ i, w'.cell? ⟨b, i, none⟩ = w.cell? ⟨b, i, none⟩ := fun i => hb.cell (p := ⟨b, i, none⟩) hB
  exact ⟨(key _).trans h.c0, (key _).trans h.c1, (key _).trans h.c2, (key _).trans h.c3, (key _).trans h.c4, (key _).trans h.c5, (key _).trans h.c6, (key _).trans h.c7, (key _).trans h.c8⟩

theorem Attrs.below {w w' : World} {a : Option Addr} {zs : List ZA} (h : Attrs w a zs) (hb : Below w.heap.size w w') : Attrs w' a zs := by
  intro k z hz
  obtain ⟨bk, off, ha, h8⟩ := h k z hz
  exact ⟨bk, off, ha, h8.below hb (cell_lt h8.c0)⟩

/-- it returned a bool -/
def BoolAny (e : Ending) : Prop := ∃ b : Bool, e = .returned (.bool b)
theorem BoolAny.mk (b : Bool) : BoolAny (.returned (.bool b)) := ⟨b, rfl⟩
def BoolRet (e : Ending) (p : Prop) : Prop := ∃ b : Bool, (b = true → p) ∧ e = .returned (.bool b)
theorem BoolRet.no {p : Prop} : BoolRet (.returned (.bool false)) p := ⟨false, fun h => (by cases h), rfl⟩
theorem BoolRet.yes {p : Prop} (h : p) : BoolRet (.returned (.bool true)) p := ⟨true, fun _ => h, rfl⟩

set_option maxHeartbeats 1000000 in
theorem tooBig_any (z : ZA) (w : World) (hz : z.len ≤ 1048576) :
    Calls Try.prog 14 #[z.val] w fun e w' => BoolAny e ∧ Below w.heap.size w w' := by
  unfold ZA.len at hz
  have h0 : z.nm.size ≤ 1048576 := by omega
  have h1 : z.de.size ≤ 1048576 := by omega
  have h2 : z.pw.size ≤ 1048576 := by omega
  have h3 : z.mi.size ≤ 1048576 := by omega
  clear hz
  obtain ⟨nm, sc, li, de, ge, un, pw, mi⟩ := z
  simp only at h0 h1 h2 h3
  unfold ZA.val
  simp only
  go_enter Try.func14, Try.ntmps14
  go_wp2
  all_goals
    go_ret
    exact ⟨BoolAny.mk _, (Below.refl _ _).alloc (Nat.le_refl _) _⟩

/-- how many bytes it counts -/
def IntTo (e : Ending) (n : Nat) : Prop := ∃ m : Int, 0 ≤ m ∧ m ≤ n ∧ e = .returned (.int .i64 m)

set_option maxHeartbeats 1000000 in
theorem bytes_any (z : ZA) (w : World) (hz : z.len ≤ 1048576) :
    Calls Try.prog 15 #[z.val] w fun e w' => IntTo e 2097152 ∧ Below w.heap.size w w' := by
  unfold ZA.len at hz
  obtain ⟨nm, sc, li, de, ge, un, pw, mi⟩ := z
  simp only at hz
  unfold ZA.val
  simp only
  go_enter Try.func15, Try.ntmps15
  go_wp2
  go_ret
  exact ⟨⟨_, by omega, by omega, rfl⟩, (Below.refl _ _).alloc (Nat.le_refl _) _⟩
end Go.Proofs.Qxb6003612a.At
