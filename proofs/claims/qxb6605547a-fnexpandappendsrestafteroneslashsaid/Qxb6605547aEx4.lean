import Derived.Test.Qxb6605547aEx3
import Derived.Deep.RegionWith
import Derived.Deep.QuietTactic
import Derived.BigQuiet
namespace Go.Proofs.Qxb6605547a.Ex
open Go.ChangeShapes Go.WideShapes Go.ChangeAt Go.RowKit

/-- the text of one part -/
def piece (xs : List ByteArray) (f : Nat) (p : ByteArray × Int) : List UInt8 :=
  if p.2 = -1 then p.1.data.toList else if p.2 = -2 then restL xs f else (xs.getD p.2.toNat ByteArray.empty).data.toList

/-- the text of the first k parts -/
def body (xs : List ByteArray) (f : Nat) (ps : List (ByteArray × Int)) : List UInt8 := (ps.map (piece xs f)).flatten

theorem body_take_succ (xs : List ByteArray) (f : Nat) (ps : List (ByteArray × Int)) (k : Nat) (p : ByteArray × Int) (h : ps[k]? = some p) :
    body xs f (ps.take (k + 1)) = body xs f (ps.take k) ++ piece xs f p := by
  unfold body
  rw [List.take_add_one, h]; simp

theorem piece_len (xs : List ByteArray) (f n4 : Nat) (p : ByteArray × Int) (hn4 : xs.length = n4) (hl4 : n4 ≤ 1048576) (ht4 : tot xs ≤ 1048576) (hsz : p.1.size ≤ 1048576) : (piece xs f p).length ≤ 2097152 := by
  unfold piece
  have h1 := restL_length xs f
  by_cases e1 : p.2 = -1
  · rw [if_pos e1]
    have e : p.1.data.toList.length = p.1.size := by simp
    omega
  · rw [if_neg e1]
    by_cases e2 : p.2 = -2
    · rw [if_pos e2]; omega
    · rw [if_neg e2]
      have e : (xs.getD p.2.toNat ByteArray.empty).data.toList.length = (xs.getD p.2.toNat ByteArray.empty).size := by simp
      rw [e]
      by_cases hlt : p.2.toNat < xs.length
      · have hx : xs[p.2.toNat]? = some (xs.getD p.2.toNat ByteArray.empty) := by rw [List.getElem?_eq_getElem hlt]; simp [List.getD, List.getElem?_eq_getElem hlt]
        have := size_le xs _ _ hx
        omega
      · have e0 : xs.getD p.2.toNat ByteArray.empty = ByteArray.empty := by rw [List.getD, List.getElem?_eq_none (Nat.le_of_not_lt hlt)]; rfl
        rw [e0]
        exact Nat.zero_le _

theorem body_len (xs : List ByteArray) (f : Nat) (ps : List (ByteArray × Int)) (h : ∀ (k : Nat) p, ps[k]? = some p → (piece xs f p).length ≤ 2097152) (k : Nat) : (body xs f (ps.take k)).length ≤ k * 2097152 := by
  induction k with
  | zero => rw [List.take_zero]; exact Nat.zero_le _
  | succ k ih =>
    cases hp : ps[k]? with
    | none =>
      have : ps.take (k + 1) = ps.take k := by rw [List.take_add_one, hp]; simp
      rw [this]; exact Nat.le_trans ih (Nat.mul_le_mul_right _ (Nat.le_succ k))
    | some p =>
      rw [body_take_succ xs f ps k p hp, List.length_append]
      have := h k p hp
      omega

theorem piece_text (xs : List ByteArray) (f : Nat) (x : ByteArray) : piece xs f (x, -1) = x.data.toList := by simp [piece]
theorem piece_rest (xs : List ByteArray) (f : Nat) (x : ByteArray) : piece xs f (x, -2) = restL xs f := by simp [piece]
theorem piece_seg (xs : List ByteArray) (f j : Nat) (x y : ByteArray) (h : xs[j]? = some y) : piece xs f (x, (j : Int)) = y.data.toList := by
  unfold piece
  rw [if_neg (show ¬ (j : Int) = -1 by omega), if_neg (show ¬ (j : Int) = -2 by omega)]
  simp [List.getD, h]

theorem body_step (xs : List ByteArray) (f : Nat) (ps : List (ByteArray × Int)) (k : Nat) (p : ByteArray × Int) (s : ByteArray) (h : ps[k]? = some p) (hs : piece xs f p = s.data.toList) :
    Lib.byteCells (body xs f (ps.take (k + 1))) = Lib.byteCells (body xs f (ps.take k)) ++ Lib.strCells s := by
  rw [body_take_succ xs f ps k p h, hs, Lib.byteCells_append, Lib.strCells_eq]

theorem builder_below {B b : Nat} {bs : List Value} {w w' : World} (h : Lib.IsBuilder 50 5 B b bs w) (hb : Below w.heap.size w w') : Lib.IsBuilder 50 5 B b bs w' := by
  have hg : w.grownBy w' none := ⟨hb.os, hb.tape, hb.output, hb.size, fun k hk _ => hb.block k hk⟩
  have key : ∀ p, Lib.BuilderAt 50 5 B b p bs w → Lib.BuilderAt 50 5 B b p bs w' := by
    rintro p ⟨hB, v, hh, ho, hne⟩
    have hlt : b < w.heap.size := by
      by_cases hb : b < w.heap.size
      · exact hb
      · rw [Array.getElem?_eq_none (by omega)] at hh; cases hh
    refine ⟨hB, v, by rw [hb.block b hlt]; exact hh, ho.kept hg ?_, hne⟩
    cases hv : v.ownBlock with
    | none => exact Or.inl rfl
    | some k => exact Or.inr (by simp)
  rcases h with h | h
  · exact Or.inl (key _ h)
  · exact Or.inr (key _ h)

/-- what the walk knows of the template and the path -/
structure Tmpl (w : World) (tb pb n : Nat) (f : Nat) (ar sl : Bool) (a : Option Addr) (n4 c4 : Nat) (ps : List (ByteArray × Int)) (xs : List ByteArray) : Prop where
  t0 : w.cell? ⟨tb, 0, none⟩ = some (.slice (some ⟨pb, 0, none⟩) n n)
  t1 : w.cell? ⟨tb, 1, none⟩ = some (.int .i64 f)
  t2 : w.cell? ⟨tb, 2, none⟩ = some (.bool ar)
  t3 : w.cell? ⟨tb, 3, none⟩ = some (.bool sl)
  p0 : ∀ (k : Nat) p, ps[k]? = some p → w.cell? ⟨pb, k * 2, none⟩ = some (.string p.1)
  p1 : ∀ (k : Nat) p, ps[k]? = some p → w.cell? ⟨pb, k * 2 + 1, none⟩ = some (.int .i64 p.2)
  s : Strs w a xs

/-- what is appended behind the parts -/
def tailL (xs : List ByteArray) (f : Nat) (ar sl : Bool) : List UInt8 :=
  if ar then (if restL xs f = [] then [] else (if sl then [] else [47]) ++ restL xs f) else []

theorem cells_app (l m : List UInt8) : Lib.byteCells l ++ Lib.strCells ⟨m.toArray⟩ = Lib.byteCells (l ++ m) := by
  rw [Lib.byteCells_append]; rfl
theorem cells_slash (l : List UInt8) : Lib.byteCells l ++ [Value.int .u8 47] = Lib.byteCells (l ++ [47]) := by
  rw [Lib.byteCells_append]; rfl
theorem ret_str {l m : List UInt8} (h : l = m) : Ending.returned (.string ⟨l.toArray⟩) = .returned (.string ⟨m.toArray⟩) := by rw [h]

set_option maxHeartbeats 4000000 in
theorem expand_any (tb pb n f : Nat) (ar sl : Bool) (a a5 : Option Addr) (n4 c4 n5 c5 : Nat) (ps : List (ByteArray × Int)) (xs : List ByteArray) (w : World)
    (hT : Tmpl w tb pb n f ar sl a n4 c4 ps xs) (hn : ps.length = n) (hl : n ≤ 1048576) (hn4 : xs.length = n4) (hc4 : n4 ≤ c4) (hl4 : n4 ≤ 1048576) (ht4 : tot xs ≤ 1048576) (hf : f ≤ n4)
    (hok : ∀ (k : Nat) p, ps[k]? = some p → okIdx n4 p.2) (hsz : ∀ (k : Nat) p, ps[k]? = some p → p.1.size ≤ 1048576) (hpb : pb < w.heap.size)
    (hst : ((n : Int) == 1) = false ∨ (((n : Int) == 1) = true ∧ (0 : Int) < n ∧ ∃ z, w.cell? ⟨pb, 1, none⟩ = some (.int .i64 z) ∧ (z == -1) = false) ∨ (((n : Int) == 1) = true ∧ (0 : Int) < n ∧ ar = true ∧ w.cell? ⟨pb, 1, none⟩ = some (.int .i64 (-1)))) :
    Calls Try.prog 25 #[.pointer (some ⟨tb, 0, none⟩), .agg #[.slice a n4 c4, .slice a5 n5 c5]] w fun e w' => e = .returned (.string ⟨(body xs f ps ++ tailL xs f ar sl).toArray⟩) ∧ Below w.heap.size w w' := by
  have c0 := hT.t0
  have c1 := hT.t1
  have c2 := hT.t2
  have c3 := hT.t3
  have b0 := cell_lt c0
  have HT := hide hT
  clear hT
  have hpl : ∀ (k : Nat) p, ps[k]? = some p → (piece xs f p).length ≤ 2097152 := fun k p hp => piece_len xs f n4 p hn4 hl4 ht4 (hsz k p hp)
  have Hor : Hid (ar = false ∨ ar = true) := by cases ar <;> simp [Hid]
  rcases hst with g1 | ⟨g1, g2, z, g3, g4⟩ | ⟨g1, g2, rfl, g3⟩
  all_goals
    go_enter Try.func25, Try.ntmps25
    go_wp2
    have hw1 : Below w.heap.size w (w.alloc (.cells #[.slice a n4 c4, .slice a5 n5 c5] 46)) := (Below.refl w.heap.size w).alloc (Nat.le_refl _) _
    have hsz1 : (w.alloc (.cells #[.slice a n4 c4, .slice a5 n5 c5] 46)).heap.size = w.heap.size + 1 := by simp
    have hB0 := Lib.fresh_isBuilder 50 5 (w.alloc (.cells #[.slice a n4 c4, .slice a5 n5 c5] 46))
    rw [hsz1] at hB0
    have hx0 : (w.alloc (.cells #[.slice a n4 c4, .slice a5 n5 c5] 46)).cell? ⟨w.heap.size, 0, none⟩ = some (.slice a n4 c4) := by simp
    have hx1 : (w.alloc (.cells #[.slice a n4 c4, .slice a5 n5 c5] 46)).cell? ⟨w.heap.size, 1, none⟩ = some (.slice a5 n5 c5) := by simp
    have hw2 : Below (w.heap.size + 1) (w.alloc (.cells #[.slice a n4 c4, .slice a5 n5 c5] 46)) ((w.alloc (.cells #[.slice a n4 c4, .slice a5 n5 c5] 46)).alloc (.cells #[.pointer none, .slice none 0 0] 50)) := (Below.refl _ _).alloc (by rw [hsz1]; exact Nat.le_refl _) _
    generalize w.alloc (.cells #[.slice a n4 c4, .slice a5 n5 c5] 46) = w1 at *
    generalize w1.alloc (.cells #[.pointer none, .slice none 0 0] 50) = w2 at *
    go_loopw [44] (fun i wr => ∃ k : Nat, k ≤ n ∧ i = .int .i64 k ∧ Lib.IsBuilder 50 5 (w.heap.size + 1) (w.heap.size + 1) (Lib.byteCells (body xs f (ps.take k))) wr ∧ Below (w.heap.size + 1) w1 wr) (fun i _ => n - (intOf i).toNat)
    case atStart => exact ⟨0, by omega, rfl, hB0, hw2⟩
    case round =>
      clear hB0 hw2
      obtain ⟨k, hk, rfl, hB, hb⟩ := hrel
      have hb2 : Below w.heap.size w wr := hw1.trans (hb.mono (by omega))
      by_cases hlt : k < n
      · obtain ⟨p, hp⟩ := at_lt ps k n hn hlt
        obtain ⟨x, z⟩ := p
        have hcp0 := HT.out.p0 k _ hp
        have hcp1 := HT.out.p1 k _ hp
        rw [← hb2.cell (p := ⟨pb, k * 2, none⟩) (cell_lt hcp0)] at hcp0
        rw [← hb2.cell (p := ⟨pb, k * 2 + 1, none⟩) (cell_lt hcp1)] at hcp1
        have hpz := hok k _ hp
        have hxz := hsz k _ hp
        simp only at hcp0 hcp1 hpz hxz
        have hlen := body_len xs f ps hpl k
        have hcl : (Lib.byteCells (body xs f (ps.take k))).length = (body xs f (ps.take k)).length := Lib.byteCells_length _
        have Hlen : Hid ((Lib.byteCells (body xs f (ps.take k))).length ≤ k * 2097152) := by rw [hcl]; exact hlen
        have Hp := hide hp
        have hBw : w.heap.size + 1 ≤ wr.heap.size := by have := hb.size; omega
        have hwr : w.heap.size < wr.heap.size := hBw
        clear hlen hcl hp
        rcases hpz with rfl | rfl | ⟨hz0, hz1⟩
        · clear c0 c1 c2 c3
          go_wp2_with fail
          refine (writeString (w.heap.size + 1) (w.heap.size + 1) (Lib.byteCells (body xs f (ps.take k))) x _ (builder_below hB ((Below.refl _ _).alloc (Nat.le_refl _) _)) (by have := Hlen.out; omega) (by simp; omega)).mono ?_
          rintro e w3 ⟨rfl, hB3, hb3⟩
          go_wp2
          go_roundw
          case rel =>
            refine ⟨k + 1, by omega, by go_num, ?_, (hb.alloc hBw _).trans hb3⟩
            rw [body_step xs f ps k _ x Hp.out (piece_text xs f x)]
            exact Or.inr hB3
          case measure => simp [intOf]; omega
        · have hx0r : wr.cell? ⟨w.heap.size, 0, none⟩ = some (.slice a n4 c4) := by rw [hb.cell (p := ⟨w.heap.size, 0, none⟩) (Nat.lt_succ_self _)]; exact hx0
          have hx1r : wr.cell? ⟨w.heap.size, 1, none⟩ = some (.slice a5 n5 c5) := by rw [hb.cell (p := ⟨w.heap.size, 1, none⟩) (Nat.lt_succ_self _)]; exact hx1
          have c1r : wr.cell? ⟨tb, 1, none⟩ = some (.int .i64 f) := by rw [hb2.cell (p := ⟨tb, 1, none⟩) b0]; exact c1
          have btr : tb < wr.heap.size := by omega
          have HS0 : Hid (∀ W, Below wr.heap.size wr W → Strs W a xs) := fun W hW => (HT.out.s.below hb2).below hW
          have HB0 : Hid (∀ W, Below wr.heap.size wr W → Lib.IsBuilder 50 5 (w.heap.size + 1) (w.heap.size + 1) (Lib.byteCells (body xs f (ps.take k))) W) := fun W hW => builder_below hB hW
          have Hrl : Hid ((⟨(restL xs f).toArray⟩ : ByteArray).size ≤ 2097152) := by
            have := restL_length xs f
            show (restL xs f).toArray.size ≤ 2097152
            rw [List.size_toArray]; omega
          clear c0 c1 c2 c3 hx0 hx1
          go_wp2_with fail
          go_region_with (first
            | (go_at_call 27; refine (rest_any a a5 n4 c4 n5 c5 f xs _ (HS0.out _ ?_) hn4 hc4 hl4 ht4 hf).mono ?_; exact ((Below.refl _ _).alloc (Nat.le_refl _) _).drew; rintro e w3 ⟨rfl, hb3⟩; replace hb3 := Below.trans (((Below.refl wr.heap.size wr).alloc (Nat.le_refl _) (.cells #[.string x, .int .i64 (-2)] 40)).drew) (hb3.mono (by simp)))
            | (go_at_call 26; refine (writeString (w.heap.size + 1) (w.heap.size + 1) (Lib.byteCells (body xs f (ps.take k))) ⟨(restL xs f).toArray⟩ _ (HB0.out _ hb3) (by have := Hlen.out; have := Hrl.out; omega) (by have := hb3.size; omega)).mono ?_; rintro e w4 ⟨rfl, hB4, hb4⟩))
          all_goals
            go_wp2
            go_roundw
            case rel =>
              refine ⟨k + 1, by omega, by go_num, ?_, (hb.trans (hb3.mono hBw)).trans hb4⟩
              rw [body_step xs f ps k _ ⟨(restL xs f).toArray⟩ Hp.out (piece_rest xs f x)]
              exact Or.inr hB4
            case measure => simp [intOf]; omega
        · obtain ⟨j, rfl⟩ := Int.eq_ofNat_of_zero_le hz0
          obtain ⟨y, hy⟩ := at_lt xs j n4 hn4 (by omega)
          have hys := size_le xs j y hy
          obtain ⟨bx, ox, rfl, hcx⟩ := HT.out.s j y hy
          rw [← hb2.cell (p := ⟨bx, ox + j, none⟩) (cell_lt hcx)] at hcx
          have hx0r : wr.cell? ⟨w.heap.size, 0, none⟩ = some (.slice (some ⟨bx, ox, none⟩) n4 c4) := by rw [hb.cell (p := ⟨w.heap.size, 0, none⟩) (Nat.lt_succ_self _)]; exact hx0
          have hbx : bx < wr.heap.size := cell_lt hcx
          have Hy := hide hy
          clear c0 c1 c2 c3 hy hx0 hx1
          go_wp2_with fail
          refine (writeString (w.heap.size + 1) (w.heap.size + 1) (Lib.byteCells (body xs f (ps.take k))) y _ (builder_below hB ((Below.refl _ _).alloc (Nat.le_refl _) _)) (by have := Hlen.out; omega) (by simp; omega)).mono ?_
          rintro e w3 ⟨rfl, hB3, hb3⟩
          go_wp2
          go_roundw
          case rel =>
            refine ⟨k + 1, by omega, by go_num, ?_, (hb.alloc hBw _).trans hb3⟩
            rw [body_step xs f ps k _ y Hp.out (piece_seg xs f j x y Hy.out)]
            exact Or.inr hB3
          case measure => simp [intOf]; omega
      · have hk0 : k = n := by omega
        have hBn : Lib.IsBuilder 50 5 (w.heap.size + 1) (w.heap.size + 1) (Lib.byteCells (body xs f ps)) wr := by
          rw [hk0, List.take_of_length_le (by rw [hn]; exact Nat.le_refl _)] at hB
          exact hB
        have hbl : (body xs f ps).length ≤ n * 2097152 := by
          have := body_len xs f ps hpl n
          rw [List.take_of_length_le (by rw [hn]; exact Nat.le_refl _)] at this
          exact this
        have hBw : w.heap.size + 1 ≤ wr.heap.size := by have := hb.size; omega
        have hwr : w.heap.size < wr.heap.size := hBw
        clear hB hk0
        have c2r := c2
        rw [← hb2.cell (p := ⟨tb, 2, none⟩) b0] at c2r
        rcases Hor.out with h | h
        · first
            | (cases h; done)
            | (subst h
               clear c0 c1 c2 c3
               go_wp2_with fail
               refine (stringAny (w.heap.size + 1) (w.heap.size + 1) (body xs f ps) wr hBn hBw).mono ?_
               rintro e w3 ⟨rfl, hb3⟩
               go_wp2
               go_ret
               exact ⟨by simp [tailL], hb2.trans (hb3.mono (by omega))⟩)
        · first
            | subst h
            | clear h
          have hx0r : wr.cell? ⟨w.heap.size, 0, none⟩ = some (.slice a n4 c4) := by rw [hb.cell (p := ⟨w.heap.size, 0, none⟩) (Nat.lt_succ_self _)]; exact hx0
          have hx1r : wr.cell? ⟨w.heap.size, 1, none⟩ = some (.slice a5 n5 c5) := by rw [hb.cell (p := ⟨w.heap.size, 1, none⟩) (Nat.lt_succ_self _)]; exact hx1
          have c1r : wr.cell? ⟨tb, 1, none⟩ = some (.int .i64 f) := by rw [hb2.cell (p := ⟨tb, 1, none⟩) b0]; exact c1
          have HS0 : Hid (∀ W, Below wr.heap.size wr W → Strs W a xs) := fun W hW => (HT.out.s.below hb2).below hW
          have HB0 : Hid (∀ W, Below wr.heap.size wr W → Lib.IsBuilder 50 5 (w.heap.size + 1) (w.heap.size + 1) (Lib.byteCells (body xs f ps)) W) := fun W hW => builder_below hBn hW
          have HC3 : Hid (∀ W, Below wr.heap.size wr W → W.cell? ⟨tb, 3, none⟩ = some (.bool sl)) := fun W hW => by
            rw [hW.cell (p := ⟨tb, 3, none⟩) (by show tb < wr.heap.size; omega), hb2.cell (p := ⟨tb, 3, none⟩) b0]; exact c3
          clear c0 c1 c2 c3 hx0 hx1
          go_wp2_with fail
          go_region_with ((go_at_call 27; refine (rest_any a a5 n4 c4 n5 c5 f xs _ (HS0.out _ ?_) hn4 hc4 hl4 ht4 hf).mono ?_; exact (Below.refl _ _).drew; rintro e w3 ⟨rfl, hb3⟩; replace hb3 := Below.trans (Below.refl wr.heap.size wr).drew (hb3.mono (by simp))))
          all_goals
            have c3r := HC3.out w3 hb3
            have hB3 := HB0.out w3 hb3
            clear HC3 HB0 HS0
            have hr3 := hb3.size
            have Hrl : Hid ((⟨(restL xs f).toArray⟩ : ByteArray).size ≤ 2097152) := by
              have := restL_length xs f
              show (restL xs f).toArray.size ≤ 2097152
              rw [List.size_toArray]; omega
            have hcl : (Lib.byteCells (body xs f ps)).length ≤ n * 2097152 := by rw [Lib.byteCells_length]; exact hbl
            have hB3w : w.heap.size + 1 ≤ w3.heap.size := by omega
            have hbr : Below (w.heap.size + 1) wr w3 := hb3.mono hBw
            have hbt : Below w.heap.size w w3 := hb2.trans (hb3.mono (by omega))
            by_cases hr : restL xs f = []
            · have he : (restL xs f).isEmpty = true := by rw [hr]; rfl
              have Hr : Hid (body xs f ps = body xs f ps ++ tailL xs f true sl) := by unfold tailL Hid; rw [if_pos rfl, if_pos hr]; simp
              clear hr
              go_wp2_with fail
              refine (stringAny (w.heap.size + 1) (w.heap.size + 1) (body xs f ps) w3 hB3 hB3w).mono ?_
              rintro e w4 ⟨rfl, hb4⟩
              go_wp2
              go_ret
              exact ⟨ret_str Hr.out, hbt.trans (hb4.mono (by omega))⟩
            · have he : (restL xs f).isEmpty = false := by cases hl : restL xs f with
                | nil => exact absurd hl hr
                | cons _ _ => rfl
              have Hr : Hid (tailL xs f true sl = (if sl then [] else [47]) ++ restL xs f) := by unfold tailL Hid; rw [if_pos rfl, if_neg hr]
              clear hr
              cases sl with
              | true =>
                go_wp2_with fail
                refine (writeString (w.heap.size + 1) (w.heap.size + 1) (Lib.byteCells (body xs f ps)) ⟨(restL xs f).toArray⟩ w3 hB3 (by have := Hrl.out; omega) hB3w).mono ?_
                rintro e w4 ⟨rfl, hB4, hb4⟩
                rw [cells_app] at hB4
                have hB4w : w.heap.size + 1 ≤ w4.heap.size := by have := hb4.size; omega
                go_wp2_with fail
                refine (stringAny (w.heap.size + 1) (w.heap.size + 1) (body xs f ps ++ restL xs f) w4 (Or.inr hB4) hB4w).mono ?_
                rintro e w5 ⟨rfl, hb5⟩
                go_wp2
                go_ret
                exact ⟨ret_str (by rw [Hr.out]; rfl), hbt.trans ((hb4.mono (by omega)).trans (hb5.mono (by omega)))⟩
              | false =>
                go_wp2_with fail
                refine (writeByte (w.heap.size + 1) (w.heap.size + 1) (Lib.byteCells (body xs f ps)) 47 w3 hB3 (by omega) hB3w).mono ?_
                rintro e w4 ⟨rfl, hB4, hb4⟩
                rw [cells_slash] at hB4
                have hB4w : w.heap.size + 1 ≤ w4.heap.size := by have := hb4.size; omega
                have hcl4 : (Lib.byteCells (body xs f ps ++ [47])).length ≤ n * 2097152 + 1 := by rw [Lib.byteCells_length, List.length_append]; simp; omega
                go_wp2_with fail
                refine (writeString (w.heap.size + 1) (w.heap.size + 1) (Lib.byteCells (body xs f ps ++ [47])) ⟨(restL xs f).toArray⟩ w4 (Or.inr hB4) (by have := Hrl.out; omega) hB4w).mono ?_
                rintro e w5 ⟨rfl, hB5, hb5⟩
                rw [cells_app] at hB5
                have hB5w : w.heap.size + 1 ≤ w5.heap.size := by have := hb5.size; omega
                go_wp2_with fail
                refine (stringAny (w.heap.size + 1) (w.heap.size + 1) (body xs f ps ++ [47] ++ restL xs f) w5 (Or.inr hB5) hB5w).mono ?_
                rintro e w6 ⟨rfl, hb6⟩
                go_wp2
                go_ret
                exact ⟨ret_str (by rw [Hr.out]; rfl), hbt.trans ((hb4.mono (by omega)).trans ((hb5.mono (by omega)).trans (hb6.mono (by omega))))⟩
end Go.Proofs.Qxb6605547a.Ex
