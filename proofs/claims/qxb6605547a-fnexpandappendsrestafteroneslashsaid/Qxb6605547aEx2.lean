import Derived.Test.Qxb6605547aEx1
import Derived.OwnWalk
import Derived.Laws.OwnMore
namespace Go.Proofs.Qxb6605547a.Ex
open Go.ChangeShapes Go.WideShapes Go.ChangeAt Go.RowKit

theorem info9 : (Try.prog.info? 9).map (fun i => (i.zero, i.size, i.bytes)) = some (some (.string ⟨#[]⟩), 1, 16) := by kernel_rfl
theorem info3 : (Try.prog.info? 3).map (fun i => (i.zero, i.size, i.bytes)) = some (some (.int .i64 0), 1, 8) := by kernel_rfl

/-- it returned a slice of the strings xs -/
def StrsRet (e : Ending) (w' : World) (n : Nat) (xs : List ByteArray) : Prop := ∃ a c, e = .returned (.slice a n c) ∧ n ≤ c ∧ Strs w' a xs

def IntsRet (e : Ending) (w' : World) (n : Nat) (xs : List Int) : Prop := ∃ a c, e = .returned (.slice a n c) ∧ n ≤ c ∧ Ints w' a xs

/-- a row of which the first k cells hold the first k of the values vs -/
def Row (w : World) (B t g n : Nat) (vs : List Value) (k : Nat) : Prop :=
  ∃ L : List Value, w.ownsRow B t 1 (.slice (some ⟨g, 0, none⟩) n n) n L ∧ ∀ (j : Nat) (v : Value), j < k → vs[j]? = some v → L[j]? = some v

theorem Row.cell {w : World} {B t g n : Nat} {vs : List Value} {k : Nat} (h : Row w B t g n vs k) (j : Nat) (hj : j < n) : ∃ v, w.cell? ⟨g, j, none⟩ = some v := by
  obtain ⟨L, ho, _⟩ := h
  have hl : L.length = n := by have := ho.1; omega
  exact ⟨L[j]'(by omega), by rw [ho.cellAt j (by omega)]; exact List.getElem?_eq_getElem (by omega)⟩

theorem Row.frozen {w : World} {B t g n : Nat} {vs : List Value} {k : Nat} (h : Row w B t g n vs k) (j : Nat) : w.frozen? ⟨g, j, none⟩ = false := by
  obtain ⟨L, ho, _⟩ := h
  exact ho.frozenAt j

theorem Row.step {w : World} {B t g n : Nat} {vs : List Value} {k : Nat} {v : Value} (h : Row w B t g n vs k) (hk : k < n) (hv : vs[k]? = some v) : Row (w.setCell ⟨g, k, none⟩ v) B t g n vs (k + 1) := by
  obtain ⟨L, ho, hL⟩ := h
  have hl : L.length = n := by have := ho.1; omega
  refine ⟨L.set k v, (ho.stored k v).1, fun j u hj hu => ?_⟩
  rw [List.getElem?_set]
  by_cases e : k = j
  · subst e
    rw [if_pos rfl, if_pos (by omega)]
    rw [hv] at hu; exact hu
  · rw [if_neg e]; exact hL j u (by omega) hu

theorem Row.lt {w : World} {B t g n : Nat} {vs : List Value} {k : Nat} (h : Row w B t g n vs k) : B ≤ g ∧ g < w.heap.size := by
  obtain ⟨L, ho, _⟩ := h
  exact ho.lt g rfl

theorem Row.start {w : World} {B t g n : Nat} {vs L : List Value} (h : w.ownsRow B t 1 (.slice (some ⟨g, 0, none⟩) n n) n L) : Row w B t g n vs 0 :=
  ⟨L, h, fun j v hj => absurd hj (by omega)⟩

theorem Row.read {w : World} {B t g n : Nat} {vs : List Value} (h : Row w B t g n vs n) (j : Nat) (v : Value) (hj : j < n) (hv : vs[j]? = some v) : w.cell? ⟨g, 0 + j, none⟩ = some v := by
  obtain ⟨L, ho, hL⟩ := h
  rw [Nat.zero_add, ho.cellAt j (by omega)]
  exact hL j v hj hv

theorem Row.strs {w : World} {B t g n : Nat} {xs : List ByteArray} (hn : xs.length = n) (h : Row w B t g n (xs.map Value.string) n) : Strs w (some ⟨g, 0, none⟩) xs := by
  intro k x hx
  have hk : k < n := by rw [← hn]; exact (List.getElem?_eq_some_iff.1 hx).1
  exact ⟨g, 0, rfl, h.read k (.string x) hk (by rw [List.getElem?_map, hx]; rfl)⟩

theorem Row.ints {w : World} {B t g n : Nat} {zs : List Int} (hn : zs.length = n) (h : Row w B t g n (zs.map (Value.int .i64)) n) : Ints w (some ⟨g, 0, none⟩) zs := by
  intro k x hx
  have hk : k < n := by rw [← hn]; exact (List.getElem?_eq_some_iff.1 hx).1
  exact ⟨g, 0, rfl, h.read k (.int .i64 x) hk (by rw [List.getElem?_map, hx]; rfl)⟩

theorem cell_lt {w : World} {a : Addr} {v : Value} (h : w.cell? a = some v) : a.block < w.heap.size := by
  unfold World.cell? at h
  by_cases hb : a.block < w.heap.size
  · exact hb
  · rw [Array.getElem?_eq_none (by omega)] at h
    simp at h

theorem Strs.below {w w' : World} {a : Option Addr} {xs : List ByteArray} (h : Strs w a xs) (hb : Below w.heap.size w w') : Strs w' a xs := by
  intro k x hx
  obtain ⟨bk, off, ha, hc⟩ := h k x hx
  exact ⟨bk, off, ha, by rw [hb.cell (p := ⟨bk, off + k, none⟩) (cell_lt hc)]; exact hc⟩

theorem Ints.below {w w' : World} {a : Option Addr} {xs : List Int} (h : Ints w a xs) (hb : Below w.heap.size w w') : Ints w' a xs := by
  intro k x hx
  obtain ⟨bk, off, ha, hc⟩ := h k x hx
  exact ⟨bk, off, ha, by rw [hb.cell (p := ⟨bk, off + k, none⟩) (cell_lt hc)]; exact hc⟩

theorem strs_none {w : World} {xs : List ByteArray} (h : Strs w none xs) : xs = [] := by
  cases xs with
  | nil => rfl
  | cons x xs => obtain ⟨_, _, h, _⟩ := h 0 x rfl; cases h

theorem ints_none {w : World} {xs : List Int} (h : Ints w none xs) : xs = [] := by
  cases xs with
  | nil => rfl
  | cons x xs => obtain ⟨_, _, h, _⟩ := h 0 x rfl; cases h

set_option maxHeartbeats 400000 in
theorem cloneStrings_any (a : Option Addr) (n cap : Nat) (xs : List ByteArray) (w : World) (hS : Strs w a xs) (hn : xs.length = n) (hl : n ≤ 1048576) :
    Calls Try.prog 16 #[.slice a n cap] w fun e w' => StrsRet e w' n xs ∧ Below w.heap.size w w' := by
  have q26 : ∀ (w : World) (a : Option Addr) (n c n' c' : Nat), (binOp .eql 26 (.slice a n c) (.slice none n' c')).run Try.prog w = .ok (.bool a.isNone) w := fun w a n c n' c' => Lib.run_eql_slice_nil w _ _ a n c n' c' Try.underlying26
  cases a with
  | none =>
    have hx := strs_none hS
    subst hx
    simp only [List.length_nil] at hn
    subst hn
    clear hS
    go_enter Try.func16, Try.ntmps16
    go_wp2
    go_ret
    exact ⟨⟨none, 0, rfl, Nat.le_refl _, fun k x h => by simp at h⟩, Below.refl _ _⟩
  | some ad =>
    obtain ⟨i, hi, hz0, hz1, hz2⟩ := info_parts info9
    obtain ⟨W1, hrun, hown, hgrow⟩ := run_make_full (P := Try.prog) w w.heap.size 26 9 i (.string ⟨#[]⟩) 1 Try.underlying26 hi hz0 hz1 .i64 .i64 n (by rw [hz2]; omega) (by unfold maxLen; omega) (Nat.le_refl _)
    have hb : Below w.heap.size w W1 := (Below.refl _ w).grown hgrow (Nat.le_refl _) (fun k h => by cases h)
    have hR : Row W1 w.heap.size 9 w.heap.size n (xs.map Value.string) 0 := Row.start hown
    have HS := hide hS
    have Hn := hide hn
    clear hS hn hgrow hown hz0 hz1 hz2 hi
    go_enter Try.func16, Try.ntmps16
    go_wp2
    go_loopw [4] (fun iv wr => ∃ k : Nat, k ≤ n ∧ iv = .int .i64 k ∧ Row wr w.heap.size 9 w.heap.size n (xs.map Value.string) k ∧ Below w.heap.size w wr) (fun iv _ => n - (intOf iv).toNat)
    case atStart => exact ⟨0, by omega, rfl, hR, hb⟩
    case round =>
      clear hR hb hrun
      obtain ⟨k, hk, rfl, hR, hb⟩ := hrel
      by_cases hlt : k < n
      · obtain ⟨x, hx⟩ := at_lt xs k n Hn.out hlt
        obtain ⟨bk, off, had, hc⟩ := HS.out k x hx
        obtain rfl := Option.some.inj had
        clear had
        have hcr : wr.cell? ⟨bk, off + k, none⟩ = some (.string x) := by rw [hb.cell (p := ⟨bk, off + k, none⟩) (cell_lt hc)]; exact hc
        obtain ⟨v, hv⟩ := hR.cell k hlt
        have hf := hR.frozen k
        have hR' : Hid (Row (wr.setCell ⟨w.heap.size, k, none⟩ (.string x)) w.heap.size 9 w.heap.size n (xs.map Value.string) (k + 1)) := hR.step hlt (by rw [List.getElem?_map, hx]; rfl)
        have hb' : Hid (Below w.heap.size w (wr.setCell ⟨w.heap.size, k, none⟩ (.string x))) := hb.setCell (Nat.le_refl _) _
        clear hR hb hx hc
        go_wp2
        go_roundw
        case rel => exact ⟨k + 1, by omega, by go_num, hR', hb'⟩
        case measure => simp [intOf]; omega
      · have hk0 : k = n := by omega
        have HR : Hid (Strs wr (some ⟨w.heap.size, 0, none⟩) xs) := Row.strs Hn.out (by rw [hk0] at hR; exact hR)
        clear hR hk0
        go_wp2
        go_ret
        exact ⟨⟨_, n, rfl, Nat.le_refl _, HR.out⟩, hb⟩
set_option maxHeartbeats 400000 in
theorem cloneInts_any (a : Option Addr) (n cap : Nat) (xs : List Int) (w : World) (hS : Ints w a xs) (hn : xs.length = n) (hl : n ≤ 1048576) :
    Calls Try.prog 17 #[.slice a n cap] w fun e w' => IntsRet e w' n xs ∧ Below w.heap.size w w' := by
  have q27 : ∀ (w : World) (a : Option Addr) (n c n' c' : Nat), (binOp .eql 27 (.slice a n c) (.slice none n' c')).run Try.prog w = .ok (.bool a.isNone) w := fun w a n c n' c' => Lib.run_eql_slice_nil w _ _ a n c n' c' Try.underlying27
  cases a with
  | none =>
    have hx := ints_none hS
    subst hx
    simp only [List.length_nil] at hn
    subst hn
    clear hS
    go_enter Try.func17, Try.ntmps17
    go_wp2
    go_ret
    exact ⟨⟨none, 0, rfl, Nat.le_refl _, fun k x h => by simp at h⟩, Below.refl _ _⟩
  | some ad =>
    obtain ⟨i, hi, hz0, hz1, hz2⟩ := info_parts info3
    obtain ⟨W1, hrun, hown, hgrow⟩ := run_make_full (P := Try.prog) w w.heap.size 27 3 i (.int .i64 0) 1 Try.underlying27 hi hz0 hz1 .i64 .i64 n (by rw [hz2]; omega) (by unfold maxLen; omega) (Nat.le_refl _)
    have hb : Below w.heap.size w W1 := (Below.refl _ w).grown hgrow (Nat.le_refl _) (fun k h => by cases h)
    have hR : Row W1 w.heap.size 3 w.heap.size n (xs.map (Value.int .i64)) 0 := Row.start hown
    have HS := hide hS
    have Hn := hide hn
    clear hS hn hgrow hown hz0 hz1 hz2 hi
    go_enter Try.func17, Try.ntmps17
    go_wp2
    go_loopw [4] (fun iv wr => ∃ k : Nat, k ≤ n ∧ iv = .int .i64 k ∧ Row wr w.heap.size 3 w.heap.size n (xs.map (Value.int .i64)) k ∧ Below w.heap.size w wr) (fun iv _ => n - (intOf iv).toNat)
    case atStart => exact ⟨0, by omega, rfl, hR, hb⟩
    case round =>
      clear hR hb hrun
      obtain ⟨k, hk, rfl, hR, hb⟩ := hrel
      by_cases hlt : k < n
      · obtain ⟨x, hx⟩ := at_lt xs k n Hn.out hlt
        obtain ⟨bk, off, had, hc⟩ := HS.out k x hx
        obtain rfl := Option.some.inj had
        clear had
        have hcr : wr.cell? ⟨bk, off + k, none⟩ = some (.int .i64 x) := by rw [hb.cell (p := ⟨bk, off + k, none⟩) (cell_lt hc)]; exact hc
        obtain ⟨v, hv⟩ := hR.cell k hlt
        have hf := hR.frozen k
        have hR' : Hid (Row (wr.setCell ⟨w.heap.size, k, none⟩ (.int .i64 x)) w.heap.size 3 w.heap.size n (xs.map (Value.int .i64)) (k + 1)) := hR.step hlt (by rw [List.getElem?_map, hx]; rfl)
        have hb' : Hid (Below w.heap.size w (wr.setCell ⟨w.heap.size, k, none⟩ (.int .i64 x))) := hb.setCell (Nat.le_refl _) _
        clear hR hb hx hc
        go_wp2
        go_roundw
        case rel => exact ⟨k + 1, by omega, by go_num, hR', hb'⟩
        case measure => simp [intOf]; omega
      · have hk0 : k = n := by omega
        have HR : Hid (Ints wr (some ⟨w.heap.size, 0, none⟩) xs) := Row.ints Hn.out (by rw [hk0] at hR; exact hR)
        clear hR hk0
        go_wp2
        go_ret
        exact ⟨⟨_, n, rfl, Nat.le_refl _, HR.out⟩, hb⟩
end Go.Proofs.Qxb6605547a.Ex
