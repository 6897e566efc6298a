import Derived.Test.Qxb6003612aAt1
import Derived.OwnWalk
import Derived.Laws.OwnMore
namespace Go.Proofs.Qxb6003612a.At
open Go.ChangeShapes Go.WideShapes Go.ChangeAt Go.RowKit

set_option maxHeartbeats 1000000 in
theorem toAttr_any (z : ZA) (w : World) :
    Calls Try.prog 12 #[z.val] w fun e w' => e = .returned z.att ∧ Below w.heap.size w w' := by
  unfold ZA.val ZA.att
  go_enter Try.func12, Try.ntmps12
  go_wp2
  refine bodyPost_ret (v := .agg #[.string z.nm, .int .i64 z.sc, .bool z.li, .string z.de, .bool z.ge, .pointer none, .bool z.un, .string z.pw, .string z.mi]) (by simp [results, Try.results12, go_sem]) rfl ⟨rfl, ?_⟩
  exact ((Below.refl _ _).alloc (Nat.le_refl _) _).alloc (by simp) _

/-- the values of the cells of a list of attributes, one behind the other -/
def ZA.cs (z : ZA) : List Value := [.string z.nm, .int .i64 z.sc, .bool z.li, .string z.de, .bool z.ge, .bool z.un, .string z.pw, .string z.mi]
def ZA.ac (z : ZA) : List Value := [.string z.nm, .int .i64 z.sc, .bool z.li, .string z.de, .bool z.ge, .pointer none, .bool z.un, .string z.pw, .string z.mi]

/-- a row of elements of S cells each, of which the first k hold what f says -/
def Row (w : World) (B t S g n : Nat) (f : ZA → List Value) (zs : List ZA) (k : Nat) : Prop :=
  ∃ L : List Value, w.ownsRow B t S (.slice (some ⟨g, 0, none⟩) n n) n L ∧ ∀ (j : Nat) (z : ZA), j < k → zs[j]? = some z → ∀ (i : Nat) (v : Value), (f z)[i]? = some v → L[j * S + i]? = some v

theorem Row.cell {w : World} {B t S g n : Nat} {f : ZA → List Value} {zs : List ZA} {k : Nat} (h : Row w B t S g n f zs k) (j : Nat) (hj : j < n * S) : ∃ v, w.cell? ⟨g, j, none⟩ = some v := by
  obtain ⟨L, ho, _⟩ := h
  have hl : L.length = n * S := ho.1
  exact ⟨L[j]'(by omega), by rw [ho.cellAt j hj]; exact List.getElem?_eq_getElem (by omega)⟩

theorem Row.frozen {w : World} {B t S g n : Nat} {f : ZA → List Value} {zs : List ZA} {k : Nat} (h : Row w B t S g n f zs k) (j : Nat) : w.frozen? ⟨g, j, none⟩ = false := by
  obtain ⟨L, ho, _⟩ := h
  exact ho.frozenAt j

theorem Row.lt {w : World} {B t S g n : Nat} {f : ZA → List Value} {zs : List ZA} {k : Nat} (h : Row w B t S g n f zs k) : B ≤ g ∧ g < w.heap.size := by
  obtain ⟨L, ho, _⟩ := h
  exact ho.lt g rfl

theorem Row.start {w : World} {B t S g n : Nat} {f : ZA → List Value} {zs : List ZA} {L : List Value} (h : w.ownsRow B t S (.slice (some ⟨g, 0, none⟩) n n) n L) : Row w B t S g n f zs 0 :=
  ⟨L, h, fun j v hj => absurd hj (by omega)⟩

theorem Row.read {w : World} {B t S g n : Nat} {f : ZA → List Value} {zs : List ZA} (h : Row w B t S g n f zs n) (j : Nat) (z : ZA) (hj : j < n) (hz : zs[j]? = some z) (i : Nat) (v : Value) (hi : i < S) (hv : (f z)[i]? = some v) :
    w.cell? ⟨g, j * S + i, none⟩ = some v := by
  obtain ⟨L, ho, hL⟩ := h
  rw [ho.cellAt (j * S + i) (by have : j * S + S ≤ n * S := by rw [← Nat.succ_mul]; exact Nat.mul_le_mul_right S hj
                                omega)]
  exact hL j z hj hz i v hv

/-- the writes of one element's cells -/
def puts (w : World) (g o : Nat) : List Value → World
  | [] => w
  | v :: vs => puts (w.setCell ⟨g, o, none⟩ v) g (o + 1) vs

theorem puts_owns {B t S g n cap : Nat} : ∀ (vs : List Value) (w : World) (o : Nat) (L : List Value), w.ownsRow B t S (.slice (some ⟨g, 0, none⟩) n cap) n L → o + vs.length ≤ L.length →
    ∃ L', (puts w g o vs).ownsRow B t S (.slice (some ⟨g, 0, none⟩) n cap) n L' ∧ L'.length = L.length ∧ (∀ i v, vs[i]? = some v → L'[o + i]? = some v) ∧ ∀ j, (j < o ∨ o + vs.length ≤ j) → L'[j]? = L[j]?
  | [], w, o, L, h, _ => ⟨L, h, rfl, fun i v hv => by simp at hv, fun _ _ => rfl⟩
  | v :: vs, w, o, L, h, hl => by
    have h1 := (h.stored o v).1
    simp only [List.length_cons] at hl
    obtain ⟨L', a1, a2, a3, a4⟩ := puts_owns vs (w.setCell ⟨g, o, none⟩ v) (o + 1) (L.set o v) h1 (by simp; omega)
    refine ⟨L', a1, by rw [a2]; simp, fun i u hu => ?_, fun j hj => ?_⟩
    · cases i with
      | zero =>
        simp at hu; subst hu
        rw [Nat.add_zero, a4 o (Or.inl (by omega)), List.getElem?_set, if_pos rfl, if_pos (by omega)]
      | succ i =>
        have := a3 i u (by simpa using hu)
        rw [show o + (i + 1) = o + 1 + i by omega]; exact this
    · simp only [List.length_cons] at hj
      rw [a4 j (by omega), List.getElem?_set, if_neg (by omega)]

theorem Row.step {w : World} {B t S g n : Nat} {f : ZA → List Value} {zs : List ZA} {k : Nat} {z : ZA} (hS : ∀ z, (f z).length = S) (h : Row w B t S g n f zs k) (hk : k < n) (hz : zs[k]? = some z) :
    Row (puts w g (k * S) (f z)) B t S g n f zs (k + 1) := by
  obtain ⟨L, ho, hL⟩ := h
  have hl : L.length = n * S := ho.1
  have hb : k * S + S ≤ n * S := by rw [← Nat.succ_mul]; exact Nat.mul_le_mul_right S hk
  obtain ⟨L', a1, a2, a3, a4⟩ := puts_owns (f z) w (k * S) L ho (by rw [hS]; omega)
  refine ⟨L', a1, fun j y hj hy i v hv => ?_⟩
  by_cases e : j = k
  · subst e
    rw [hz] at hy; cases hy
    exact a3 i v hv
  · by_cases hi : i < S
    · have hb2 : j * S + S ≤ k * S := by rw [← Nat.succ_mul]; exact Nat.mul_le_mul_right S (by omega)
      rw [a4 (j * S + i) (Or.inl (by omega))]
      exact hL j y (by omega) hy i v hv
    · rw [List.getElem?_eq_none (by rw [hS]; omega)] at hv; cases hv

theorem puts_below {B : Nat} {g : Nat} (hg : B ≤ g) : ∀ (vs : List Value) (a w : World) (o : Nat), Below B a w → Below B a (puts w g o vs)
  | [], _, _, _, h => h
  | _ :: vs, a, _, o, h => puts_below hg vs a _ (o + 1) (h.setCell (p := ⟨g, o, none⟩) hg _)

theorem cs_len (z : ZA) : z.cs.length = 8 := rfl
theorem ac_len (z : ZA) : z.ac.length = 9 := rfl

theorem puts8 (w : World) (g o : Nat) (z : ZA) : puts w g o z.cs = (((((((w.setCell ⟨g, o, none⟩ (.string z.nm)).setCell ⟨g, o + 1, none⟩ (.int .i64 z.sc)).setCell ⟨g, o + 2, none⟩ (.bool z.li)).setCell ⟨g, o + 3, none⟩ (.string z.de)).setCell ⟨g, o + 4, none⟩ (.bool z.ge)).setCell ⟨g, o + 5, none⟩ (.bool z.un)).setCell ⟨g, o + 6, none⟩ (.string z.pw)).setCell ⟨g, o + 7, none⟩ (.string z.mi) := rfl

theorem puts9 (w : World) (g o : Nat) (z : ZA) : puts w g o z.ac = ((((((((w.setCell ⟨g, o, none⟩ (.string z.nm)).setCell ⟨g, o + 1, none⟩ (.int .i64 z.sc)).setCell ⟨g, o + 2, none⟩ (.bool z.li)).setCell ⟨g, o + 3, none⟩ (.string z.de)).setCell ⟨g, o + 4, none⟩ (.bool z.ge)).setCell ⟨g, o + 5, none⟩ (.pointer none)).setCell ⟨g, o + 6, none⟩ (.bool z.un)).setCell ⟨g, o + 7, none⟩ (.string z.pw)).setCell ⟨g, o + 8, none⟩ (.string z.mi) := rfl

theorem Row.attrs {w : World} {B g n : Nat} {zs : List ZA} (hn : zs.length = n) (h : Row w B 36 8 g n ZA.cs zs n) : Attrs w (some ⟨g, 0, none⟩) zs := by
  intro k z hz
  have hk : k < n := by rw [← hn]; exact (List.getElem?_eq_some_iff.1 hz).1
  refine ⟨g, 0, rfl, ?_⟩
  rw [Nat.zero_add]
  exact ⟨h.read k z hk hz 0 _ (by omega) rfl, h.read k z hk hz 1 _ (by omega) rfl, h.read k z hk hz 2 _ (by omega) rfl, h.read k z hk hz 3 _ (by omega) rfl, h.read k z hk hz 4 _ (by omega) rfl, h.read k z hk hz 5 _ (by omega) rfl, h.read k z hk hz 6 _ (by omega) rfl, h.read k z hk hz 7 _ (by omega) rfl⟩

/-- the model's attributes -/
def Atts (w : World) (g : Nat) (zs : List ZA) : Prop := ∀ (k : Nat) (z : ZA), zs[k]? = some z → At9 w g (k * 9) z

theorem Row.atts {w : World} {B g n : Nat} {zs : List ZA} (hn : zs.length = n) (h : Row w B 32 9 g n ZA.ac zs n) : Atts w g zs := by
  intro k z hz
  have hk : k < n := by rw [← hn]; exact (List.getElem?_eq_some_iff.1 hz).1
  exact ⟨h.read k z hk hz 0 _ (by omega) rfl, h.read k z hk hz 1 _ (by omega) rfl, h.read k z hk hz 2 _ (by omega) rfl, h.read k z hk hz 3 _ (by omega) rfl, h.read k z hk hz 4 _ (by omega) rfl, h.read k z hk hz 5 _ (by omega) rfl, h.read k z hk hz 6 _ (by omega) rfl, h.read k z hk hz 7 _ (by omega) rfl, h.read k z hk hz 8 _ (by omega) rfl⟩

theorem info36 : ∃ i, Try.prog.info? 36 = some i ∧ i.zero = some (.agg #[.string ⟨#[]⟩, .int .i64 0, .bool false, .string ⟨#[]⟩, .bool false, .bool false, .string ⟨#[]⟩, .string ⟨#[]⟩]) ∧ i.size = 8 ∧ i.bytes = 88 :=
  info_parts (by kernel_rfl)
theorem info32 : ∃ i, Try.prog.info? 32 = some i ∧ i.zero = some (.agg #[.string ⟨#[]⟩, .int .i64 0, .bool false, .string ⟨#[]⟩, .bool false, .pointer none, .bool false, .string ⟨#[]⟩, .string ⟨#[]⟩]) ∧ i.size = 9 ∧ i.bytes = 104 :=
  info_parts (by kernel_rfl)

theorem attrs_none {w : World} {zs : List ZA} (h : Attrs w none zs) : zs = [] := by
  cases zs with
  | nil => rfl
  | cons x xs => obtain ⟨_, _, h, _⟩ := h 0 x rfl; cases h

/-- it returned a slice of these attributes, with no room to spare -/
def AttrsRet (e : Ending) (w' : World) (n : Nat) (zs : List ZA) : Prop := (zs = [] ∧ n = 0 ∧ e = .returned (.slice none 0 0)) ∨ ∃ g, e = .returned (.slice (some ⟨g, 0, none⟩) n n) ∧ Attrs w' (some ⟨g, 0, none⟩) zs

set_option maxHeartbeats 2000000 in
theorem clone_any (a : Option Addr) (n cap : Nat) (zs : List ZA) (w : World) (hA : Attrs w a zs) (hn : zs.length = n) (hl : n ≤ 1048576) :
    Calls Try.prog 9 #[.slice a n cap] w fun e w' => AttrsRet e w' n zs ∧ Below w.heap.size w w' := by
  have q22 : ∀ (w : World) (a : Option Addr) (n c n' c' : Nat), (binOp .eql 22 (.slice a n c) (.slice none n' c')).run Try.prog w = .ok (.bool a.isNone) w := fun w a n c n' c' => Lib.run_eql_slice_nil w _ _ a n c n' c' Try.underlying22
  cases a with
  | none =>
    have hx := attrs_none hA
    subst hx
    simp only [List.length_nil] at hn
    subst hn
    clear hA
    go_enter Try.func9, Try.ntmps9
    go_wp2
    go_ret
    exact ⟨Or.inl ⟨rfl, rfl, rfl⟩, Below.refl _ _⟩
  | some ad =>
    obtain ⟨i, hi, hz0, hz1, hz2⟩ := info36
    obtain ⟨W1, hrun, hown, hgrow⟩ := run_make_full (P := Try.prog) w w.heap.size 22 36 i _ 8 Try.underlying22 hi hz0 hz1 .i64 .i64 n (by rw [hz2]; omega) (by unfold maxLen; omega) (Nat.le_refl _)
    have hb : Below w.heap.size w W1 := (Below.refl _ w).grown hgrow (Nat.le_refl _) (fun k h => by cases h)
    have hR : Row W1 w.heap.size 36 8 w.heap.size n ZA.cs zs 0 := Row.start hown
    have HA := hide hA
    have HN := hide hn
    clear hA hn hgrow hown hz0 hz1 hz2 hi
    go_enter Try.func9, Try.ntmps9
    go_wp2
    go_loopw [4] (fun iv wr => ∃ k : Nat, k ≤ n ∧ iv = .int .i64 k ∧ Row wr w.heap.size 36 8 w.heap.size n ZA.cs zs k ∧ Below w.heap.size w wr) (fun iv _ => n - (intOf iv).toNat)
    case atStart => exact ⟨0, by omega, rfl, hR, hb⟩
    case round =>
      clear hR hb hrun
      obtain ⟨k, hk, rfl, hR, hb⟩ := hrel
      by_cases hlt : k < n
      · obtain ⟨z, hz⟩ := at_lt zs k n HN.out hlt
        obtain ⟨bk, off, had, h8⟩ := HA.out k z hz
        obtain rfl := Option.some.inj had
        clear had
        have hbk : bk < w.heap.size := cell_lt h8.c0
        obtain ⟨c0, c1, c2, c3, c4, c5, c6, c7⟩ := h8.below hb hbk
        obtain ⟨v0, o0⟩ := hR.cell (k * 8) (by omega)
        obtain ⟨v1, o1⟩ := hR.cell (k * 8 + 1) (by omega)
        obtain ⟨v2, o2⟩ := hR.cell (k * 8 + 2) (by omega)
        obtain ⟨v3, o3⟩ := hR.cell (k * 8 + 3) (by omega)
        obtain ⟨v4, o4⟩ := hR.cell (k * 8 + 4) (by omega)
        obtain ⟨v5, o5⟩ := hR.cell (k * 8 + 5) (by omega)
        obtain ⟨v6, o6⟩ := hR.cell (k * 8 + 6) (by omega)
        obtain ⟨v7, o7⟩ := hR.cell (k * 8 + 7) (by omega)
        have hf := hR.frozen
        have hR' := hide (hR.step cs_len hlt hz)
        have hb' := hide (puts_below (Nat.le_refl _) z.cs w wr (k * 8) hb)
        rw [puts8] at hR' hb'
        clear hR hb hz h8
        go_wp2
        go_roundw
        case rel => exact ⟨k + 1, by omega, by go_num, hR'.out, hb'.out⟩
        case measure => simp [intOf]; omega
      · have hk0 : k = n := by omega
        have HR := hide (Row.attrs HN.out (by rw [hk0] at hR; exact hR))
        clear hR hk0
        go_wp2
        go_ret
        exact ⟨Or.inr ⟨_, rfl, HR.out⟩, hb⟩

/-- a model as the law makes it -/
structure Mod (w : World) (mb g n : Nat) (zs : List ZA) : Prop where
  m4 : w.cell? ⟨mb, 4, none⟩ = some (.slice (some ⟨g, 0, none⟩) n n)
  at9 : Atts w g zs
  gl : g < w.heap.size
  nl : zs.length = n

def ModRet (e : Ending) (w' : World) (n : Nat) (zs : List ZA) : Prop := ∃ mb g, e = .returned (.pointer (some ⟨mb, 0, none⟩)) ∧ Mod w' mb g n zs

theorem Mod.below {w w' : World} {mb g n : Nat} {zs : List ZA} (h : Mod w mb g n zs) (hb : Below w.heap.size w w') : Mod w' mb g n zs :=
  ⟨(hb.cell (p := ⟨mb, 4, none⟩) (cell_lt h.m4)).trans h.m4, fun k z hz => (h.at9 k z hz).below hb h.gl, Nat.lt_of_lt_of_le h.gl hb.size, h.nl⟩

theorem mod_mk (w : World) (g n : Nat) (zs : List ZA) (v0 v1 v2 v3 v5 v6 v7 : Value) (hA : Atts w g zs) (hg : g < w.heap.size) (hn : zs.length = n) :
    Mod (w.alloc (.cells #[v0, v1, v2, v3, .slice (some ⟨g, 0, none⟩) n n, v5, v6, v7] 57)) w.heap.size g n zs := by
  have hb : Below w.heap.size w (w.alloc (.cells #[v0, v1, v2, v3, .slice (some ⟨g, 0, none⟩) n n, v5, v6, v7] 57)) := (Below.refl _ _).alloc (Nat.le_refl _) _
  exact ⟨by simp, fun k z hz => (hA k z hz).below hb hg, Nat.lt_of_lt_of_le hg hb.size, hn⟩

set_option maxHeartbeats 2000000 in
theorem modelOf_any (a : Option Addr) (n cap : Nat) (zs : List ZA) (w : World) (hA : Attrs w a zs) (hn : zs.length = n) (hl : n ≤ 1048577) :
    Calls Try.prog 10 #[.slice a n cap] w fun e w' => ModRet e w' n zs ∧ Below w.heap.size w w' := by
  obtain ⟨i, hi, hz0, hz1, hz2⟩ := info32
  obtain ⟨W1, hrun, hown, hgrow⟩ := run_make_full (P := Try.prog) w w.heap.size 54 32 i _ 9 Try.underlying54 hi hz0 hz1 .i64 .i64 n (by rw [hz2]; omega) (by unfold maxLen; omega) (Nat.le_refl _)
  have hb : Below w.heap.size w W1 := (Below.refl _ w).grown hgrow (Nat.le_refl _) (fun k h => by cases h)
  have hR : Row W1 w.heap.size 32 9 w.heap.size n ZA.ac zs 0 := Row.start hown
  have HA := hide hA
  have HN := hide hn
  clear hA hn hgrow hown hz0 hz1 hz2 hi
  go_enter Try.func10, Try.ntmps10
  go_wp2
  go_loopw [4] (fun iv wr => ∃ k : Nat, k ≤ n ∧ iv = .int .i64 k ∧ Row wr w.heap.size 32 9 w.heap.size n ZA.ac zs k ∧ Below w.heap.size w wr) (fun iv _ => n - (intOf iv).toNat)
  case atStart => exact ⟨0, by omega, rfl, hR, hb⟩
  case round =>
    clear hR hb hrun
    obtain ⟨k, hk, rfl, hR, hb⟩ := hrel
    by_cases hlt : k < n
    · obtain ⟨z, hz⟩ := at_lt zs k n HN.out hlt
      obtain ⟨bk, off, rfl, h8⟩ := HA.out k z hz
      have hbk : bk < w.heap.size := cell_lt h8.c0
      obtain ⟨c0, c1, c2, c3, c4, c5, c6, c7⟩ := h8.below hb hbk
      have HR := hide hR
      have Hz := hide hz
      clear h8 hR hz
      go_wp2_with fail
      refine (toAttr_any z wr).mono ?_
      rintro e w1 ⟨rfl, hb1⟩
      unfold ZA.att
      have hbb := hb.trans (hb1.mono hb.size)
      have hR1 : Row w1 w.heap.size 32 9 w.heap.size n ZA.ac zs k := by
        obtain ⟨L, ho, hL⟩ := HR.out
        refine ⟨L, ho.kept (row := none) ⟨hb1.os, hb1.tape, hb1.output, hb1.size, fun j hj _ => hb1.block j hj⟩ (Or.inr (by simp [Value.ownBlock])), hL⟩
      clear HR hb hb1 c0 c1 c2 c3 c4 c5 c6 c7
      obtain ⟨v0, o0⟩ := hR1.cell (k * 9) (by omega)
      obtain ⟨v1, o1⟩ := hR1.cell (k * 9 + 1) (by omega)
      obtain ⟨v2, o2⟩ := hR1.cell (k * 9 + 2) (by omega)
      obtain ⟨v3, o3⟩ := hR1.cell (k * 9 + 3) (by omega)
      obtain ⟨v4, o4⟩ := hR1.cell (k * 9 + 4) (by omega)
      obtain ⟨v5, o5⟩ := hR1.cell (k * 9 + 5) (by omega)
      obtain ⟨v6, o6⟩ := hR1.cell (k * 9 + 6) (by omega)
      obtain ⟨v7, o7⟩ := hR1.cell (k * 9 + 7) (by omega)
      obtain ⟨v8, o8⟩ := hR1.cell (k * 9 + 8) (by omega)
      have hf := hR1.frozen
      have hR' := hide (hR1.step ac_len hlt Hz.out)
      have hb' := hide (puts_below (Nat.le_refl _) z.ac w w1 (k * 9) hbb)
      rw [puts9] at hR' hb'
      clear hR1 hbb Hz
      go_wp2
      go_roundw
      case rel => exact ⟨k + 1, by omega, by go_num, hR'.out, hb'.out⟩
      case measure => simp [intOf]; omega
    · have hk0 : k = n := by omega
      have hgl := hR.lt
      have HR := hide (Row.atts HN.out (by rw [hk0] at hR; exact hR))
      clear hR hk0
      go_wp2
      go_ret
      exact ⟨⟨_, _, rfl, mod_mk wr w.heap.size n zs _ _ _ _ _ _ _ HR.out hgl.2 HN.out⟩, hb.alloc hb.size _⟩
end Go.Proofs.Qxb6003612a.At
