import Derived.Test.Qxb6003612aAt4
import Derived.Deep.QuietTactic
import Derived.BigQuiet
namespace Go.Proofs.Qxb6003612a.At
open Go.ChangeShapes Go.WideShapes Go.ChangeAt Go.RowKit

/-- the list with x put in at p, of what stood behind p only the first m -/
def ins (zs : List ZA) (p : Nat) (x : ZA) (m : Nat) : List ZA := zs.take p ++ x :: (zs.drop p).take m

def flat (zs : List ZA) : List Value := zs.flatMap ZA.cs

theorem flat_snoc (zs : List ZA) (z : ZA) : flat (zs ++ [z]) = flat zs ++ z.cs := by simp [flat]

theorem flat_length (zs : List ZA) : (flat zs).length = zs.length * 8 := by
  induction zs with
  | nil => rfl
  | cons z zs ih => simp only [flat, List.flatMap_cons, List.length_append, List.length_cons] at ih ⊢; rw [ih, cs_len]; omega

theorem flat_get : ∀ (zs : List ZA) (k : Nat) (z : ZA), zs[k]? = some z → ∀ i, i < 8 → (flat zs)[k * 8 + i]? = z.cs[i]?
  | [], k, z, h, _, _ => by simp at h
  | y :: ys, 0, z, h, i, hi => by
    simp at h; subst h
    simp only [flat, List.flatMap_cons, Nat.zero_mul, Nat.zero_add]
    exact List.getElem?_append_left (by rw [cs_len]; exact hi)
  | y :: ys, k + 1, z, h, i, hi => by
    have ih := flat_get ys k z (by simpa using h) i hi
    simp only [flat, List.flatMap_cons] at ih ⊢
    rw [List.getElem?_append_right (by rw [cs_len]; omega), cs_len]
    rw [show (k + 1) * 8 + i - 8 = k * 8 + i by omega]
    exact ih

theorem ins_succ {zs : List ZA} {p m : Nat} {x z : ZA} (hz : zs[p + m]? = some z) : ins zs p x (m + 1) = ins zs p x m ++ [z] := by
  unfold ins
  rw [List.take_add_one, List.getElem?_drop, hz]
  simp

theorem ins_zero (zs : List ZA) (p : Nat) (x : ZA) : ins zs p x 0 = zs.take p ++ [x] := by unfold ins; rw [List.take_zero]

theorem ins_all {zs : List ZA} {p m n : Nat} {x : ZA} (hn : zs.length = n) (hm : p + m = n) : ins zs p x m = zs.take p ++ x :: zs.drop p := by
  have h : (zs.drop p).take m = zs.drop p := List.take_of_length_le (by rw [List.length_drop]; omega)
  unfold ins
  rw [h]

theorem take_snoc {zs : List ZA} {k : Nat} {z : ZA} (hz : zs[k]? = some z) : zs.take (k + 1) = zs.take k ++ [z] := by
  rw [List.take_add_one, hz]; rfl

theorem pres_any (zs : List ZA) (q : ByteArray) (p : Nat) : pres zs q p = (find (zs.take p) q).isSome := by
  unfold pres find
  rw [Bool.eq_iff_iff, List.find?_isSome, List.any_eq_true]

theorem find_app (a b : List ZA) (q : ByteArray) : find (a ++ b) q = (find a q).or (find b q) := by
  unfold find; rw [List.find?_append]

/-- an earlier one of that name: it is found as before -/
theorem find_old {zs : List ZA} {p : Nat} {x : ZA} (h : pres zs x.nm p = true) : find (zs.take p ++ x :: zs.drop p) x.nm = find zs x.nm ∧ (find zs x.nm).isSome = true := by
  rw [pres_any] at h
  obtain ⟨z, hz⟩ := Option.isSome_iff_exists.1 h
  have h2 : find zs x.nm = some z := by
    rw [← List.take_append_drop p zs, find_app, hz]; rfl
  rw [find_app, hz, h2]
  exact ⟨rfl, rfl⟩

theorem find_new {zs : List ZA} {p : Nat} {x : ZA} (h : pres zs x.nm p = false) : find (zs.take p ++ x :: zs.drop p) x.nm = some x := by
  rw [pres_any] at h
  rw [find_app]
  cases hf : find (zs.take p) x.nm with
  | some z => rw [hf] at h; cases h
  | none =>
    simp only [Option.none_or]
    unfold find
    rw [List.find?_cons_of_pos (by simp)]

theorem find_other {zs : List ZA} {p : Nat} {x : ZA} {q : ByteArray} (h : (x.nm.toList == q.toList) = false) : find (zs.take p ++ x :: zs.drop p) q = find zs q := by
  have e : find (x :: zs.drop p) q = find (zs.drop p) q := by
    unfold find
    rw [List.find?_cons_of_neg (by simp [h])]
  rw [find_app, e, ← find_app, List.take_append_drop]

/-- an owned row of attributes is a slice of them -/
theorem owns_attrs {w : World} {B n : Nat} {v : Value} {gs : List ZA} (ho : w.ownsRow B 36 8 v n (flat gs)) (h0 : 0 < n) (hn : gs.length = n) : ∃ a c, v = .slice a n c ∧ Attrs w a gs := by
  rcases ho.2 with ⟨_, h⟩ | ⟨g, cap, cur, hv, _⟩
  · omega
  · subst hv
    refine ⟨some ⟨g, 0, none⟩, cap, rfl, fun k z hz => ⟨g, 0, rfl, ?_⟩⟩
    have hk : k < n := by rw [← hn]; exact (List.getElem?_eq_some_iff.1 hz).1
    have key : ∀ i, i < 8 → w.cell? ⟨g, k * 8 + i, none⟩ = z.cs[i]? := fun i hi => by
      rw [ho.cellAt (k * 8 + i) (by omega)]
      exact flat_get gs k z hz i hi
    rw [Nat.zero_add]
    exact ⟨key 0 (by omega), key 1 (by omega), key 2 (by omega), key 3 (by omega), key 4 (by omega), key 5 (by omega), key 6 (by omega), key 7 (by omega)⟩

theorem cs_one (z : ZA) : ∀ u ∈ z.cs, u.oneCell' = true := by
  intro u hu
  simp only [ZA.cs, List.mem_cons, List.not_mem_nil, or_false] at hu
  rcases hu with rfl | rfl | rfl | rfl | rfl | rfl | rfl | rfl <;> rfl

theorem new_cells (w : World) (z : ZA) : ∀ j u, z.cs[j]? = some u → (w.alloc (.cells #[.string z.nm, .int .i64 z.sc, .bool z.li, .string z.de, .bool z.ge, .bool z.un, .string z.pw, .string z.mi] 36)).cell? ((⟨w.heap.size, 0, none⟩ : Addr).add j) = some u := by
  intro j u hj
  have hj8 : j < 8 := (List.getElem?_eq_some_iff.1 hj).1
  rw [Addr.add_lit, Nat.zero_add]
  match j, hj8, hj with
  | 0, _, hj => simp [ZA.cs] at hj; subst hj; simp
  | 1, _, hj => simp [ZA.cs] at hj; subst hj; simp
  | 2, _, hj => simp [ZA.cs] at hj; subst hj; simp
  | 3, _, hj => simp [ZA.cs] at hj; subst hj; simp
  | 4, _, hj => simp [ZA.cs] at hj; subst hj; simp
  | 5, _, hj => simp [ZA.cs] at hj; subst hj; simp
  | 6, _, hj => simp [ZA.cs] at hj; subst hj; simp
  | 7, _, hj => simp [ZA.cs] at hj; subst hj; simp

theorem At8.mk0 (w : World) (z : ZA) : At8 (w.alloc (.cells #[.string z.nm, .int .i64 z.sc, .bool z.li, .string z.de, .bool z.ge, .bool z.un, .string z.pw, .string z.mi] 36)) w.heap.size 0 z :=
  ⟨by simp, by simp, by simp, by simp, by simp, by simp, by simp, by simp⟩
/-- the box of x stands, and what was there before it -/
def St (X : Nat) (w w' : World) (x : ZA) : Prop := Below X w w' ∧ At8 w' X 0 x
theorem St.next {X : Nat} {w w1 w2 : World} {x : ZA} (h : St X w w1 x) (hb : Below w1.heap.size w1 w2) : St X w w2 x :=
  ⟨h.1.trans (hb.mono (Nat.le_of_lt (cell_lt h.2.c0))), h.2.below hb (cell_lt h.2.c0)⟩

theorem AttrsRet.one {e : Ending} {w : World} {n : Nat} {zs : List ZA} (h : AttrsRet e w n zs) : ∃ a, e = .returned (.slice a n n) ∧ Attrs w a zs := by
  rcases h with ⟨rfl, rfl, rfl⟩ | ⟨g, rfl, hA⟩
  · exact ⟨none, rfl, attrs_nil _ _⟩
  · exact ⟨_, rfl, hA⟩

theorem find_self {zs : List ZA} {p : Nat} {q : ByteArray} (h : pres zs q p = true) : ∃ y, find zs q = some y := by
  rw [pres_any] at h
  obtain ⟨z, hz⟩ := Option.isSome_iff_exists.1 h
  exact ⟨z, by rw [← List.take_append_drop p zs, find_app, hz]; rfl⟩
theorem bne_flip {a b : List UInt8} (h : (a == b) = false) : (b == a) = false := by
  rw [beq_eq_false_iff_ne] at h ⊢
  exact fun e => h e.symm
end Go.Proofs.Qxb6003612a.At
