import Derived.Test.Qxb6605547aEx4
import Derived.RegionTactic
import Derived.BigRegion
namespace Go.Proofs.Qxb6605547a.Ex
open Go.ChangeShapes Go.WideShapes Go.ChangeAt Go.RowKit

theorem info40 : (Try.prog.info? 40).map (fun i => (i.zero, i.size, i.bytes)) = some (some (.agg #[.string ⟨#[]⟩, .int .i64 0]), 2, 24) := by kernel_rfl

/-- a row of parts, of which the first k lie there -/
def PRow (w : World) (B g n : Nat) (ps : List (ByteArray × Int)) (k : Nat) : Prop :=
  ∃ L : List Value, w.ownsRow B 40 2 (.slice (some ⟨g, 0, none⟩) n n) n L ∧ ∀ (j : Nat) p, j < k → ps[j]? = some p → L[j * 2]? = some (.string p.1) ∧ L[j * 2 + 1]? = some (.int .i64 p.2)

theorem PRow.cell {w : World} {B g n : Nat} {ps : List (ByteArray × Int)} {k : Nat} (h : PRow w B g n ps k) (j : Nat) (hj : j < n * 2) : ∃ v, w.cell? ⟨g, j, none⟩ = some v := by
  obtain ⟨L, ho, _⟩ := h
  have hl : L.length = n * 2 := ho.1
  exact ⟨L[j]'(by omega), by rw [ho.cellAt j (by omega)]; exact List.getElem?_eq_getElem (by omega)⟩

theorem PRow.frozen {w : World} {B g n : Nat} {ps : List (ByteArray × Int)} {k : Nat} (h : PRow w B g n ps k) (j : Nat) : w.frozen? ⟨g, j, none⟩ = false := by
  obtain ⟨L, ho, _⟩ := h
  exact ho.frozenAt j

theorem PRow.step {w : World} {B g n : Nat} {ps : List (ByteArray × Int)} {k : Nat} {x : ByteArray} {z : Int} (h : PRow w B g n ps k) (hk : k < n) (hv : ps[k]? = some (x, z)) :
    PRow ((w.setCell ⟨g, k * 2, none⟩ (.string x)).setCell ⟨g, k * 2 + 1, none⟩ (.int .i64 z)) B g n ps (k + 1) := by
  obtain ⟨L, ho, hL⟩ := h
  have hl : L.length = n * 2 := ho.1
  refine ⟨(L.set (k * 2) (.string x)).set (k * 2 + 1) (.int .i64 z), ((ho.stored (k * 2) (.string x)).1.stored (k * 2 + 1) _).1, fun j u hj hu => ?_⟩
  simp only [List.getElem?_set, List.length_set]
  by_cases e : j = k
  · subst e
    rw [hv] at hu; cases hu
    constructor
    · rw [if_neg (by omega), if_pos rfl, if_pos (by omega)]
    · rw [if_pos rfl, if_pos (by omega)]
  · have := hL j u (by omega) hu
    constructor
    · rw [if_neg (by omega), if_neg (by omega)]; exact this.1
    · rw [if_neg (by omega), if_neg (by omega)]; exact this.2

theorem PRow.lt {w : World} {B g n : Nat} {ps : List (ByteArray × Int)} {k : Nat} (h : PRow w B g n ps k) : B ≤ g ∧ g < w.heap.size := by
  obtain ⟨L, ho, _⟩ := h
  exact ho.lt g rfl

theorem PRow.start {w : World} {B g n : Nat} {ps : List (ByteArray × Int)} {L : List Value} (h : w.ownsRow B 40 2 (.slice (some ⟨g, 0, none⟩) n n) n L) : PRow w B g n ps 0 :=
  ⟨L, h, fun j v hj => absurd hj (by omega)⟩

theorem PRow.read {w : World} {B g n : Nat} {ps : List (ByteArray × Int)} (hn : ps.length = n) (h : PRow w B g n ps n) (j : Nat) p (hv : ps[j]? = some p) :
    w.cell? ⟨g, j * 2, none⟩ = some (.string p.1) ∧ w.cell? ⟨g, j * 2 + 1, none⟩ = some (.int .i64 p.2) := by
  obtain ⟨L, ho, hL⟩ := h
  have hj : j < n := by rw [← hn]; exact (List.getElem?_eq_some_iff.1 hv).1
  rw [ho.cellAt (j * 2) (by omega), ho.cellAt (j * 2 + 1) (by omega)]
  exact hL j p hj hv

theorem zip_at {xs : List ByteArray} {zs : List Int} {k : Nat} {x : ByteArray} {z : Int} (hx : xs[k]? = some x) (hz : zs[k]? = some z) : (xs.zip zs)[k]? = some (x, z) := by
  rw [List.getElem?_zip_eq_some]; exact ⟨hx, hz⟩

set_option maxHeartbeats 1000000 in
theorem expand_short (tb pb : Nat) (a a5 : Option Addr) (n4 c4 n5 c5 : Nat) (x : ByteArray) (w : World) (hpb : pb < w.heap.size)
    (c0 : w.cell? ⟨tb, 0, none⟩ = some (.slice (some ⟨pb, 0, none⟩) 1 1)) (c2 : w.cell? ⟨tb, 2, none⟩ = some (.bool false))
    (p0 : w.cell? ⟨pb, 0, none⟩ = some (.string x)) (p1 : w.cell? ⟨pb, 1, none⟩ = some (.int .i64 (-1))) :
    Calls Try.prog 25 #[.pointer (some ⟨tb, 0, none⟩), .agg #[.slice a n4 c4, .slice a5 n5 c5]] w fun e w' => e = .returned (.string x) ∧ Below w.heap.size w w' := by
  have b0 := cell_lt c0
  go_enter Try.func25, Try.ntmps25
  go_wp2
  go_ret
  exact ⟨rfl, (Below.refl _ _).alloc (Nat.le_refl _) _⟩

/-- Expand at whatever template -/
theorem expand_all (tb pb n f : Nat) (ar sl : Bool) (a a5 : Option Addr) (n4 c4 n5 c5 : Nat) (ps : List (ByteArray × Int)) (xs : List ByteArray) (w : World)
    (hT : Tmpl w tb pb n f ar sl a n4 c4 ps xs) (hn : ps.length = n) (hl : n ≤ 1048576) (hn4 : xs.length = n4) (hc4 : n4 ≤ c4) (hl4 : n4 ≤ 1048576) (ht4 : tot xs ≤ 1048576) (hf : f ≤ n4)
    (hok : ∀ (k : Nat) p, ps[k]? = some p → okIdx n4 p.2) (hsz : ∀ (k : Nat) p, ps[k]? = some p → p.1.size ≤ 1048576) (hpb : pb < w.heap.size) :
    Calls Try.prog 25 #[.pointer (some ⟨tb, 0, none⟩), .agg #[.slice a n4 c4, .slice a5 n5 c5]] w fun e w' => e = .returned (.string ⟨(body xs f ps ++ tailL xs f ar sl).toArray⟩) ∧ Below w.heap.size w w' := by
  by_cases h1 : n = 1
  · subst h1
    obtain ⟨p, hp⟩ := at_lt ps 0 1 hn (by omega)
    obtain ⟨x, z⟩ := p
    have q0 := hT.p0 0 _ hp
    have q1 := hT.p1 0 _ hp
    simp only [Nat.zero_mul, Nat.zero_add] at q0 q1
    by_cases hz : z = -1
    · subst hz
      cases ar with
      | true => exact expand_any tb pb 1 f true sl a a5 n4 c4 n5 c5 ps xs w hT hn hl hn4 hc4 hl4 ht4 hf hok hsz hpb (Or.inr (Or.inr ⟨rfl, by decide, rfl, q1⟩))
      | false =>
        refine (expand_short tb pb a a5 n4 c4 n5 c5 x w hpb hT.t0 hT.t2 q0 q1).mono ?_
        rintro e w' ⟨rfl, hb⟩
        refine ⟨?_, hb⟩
        have hps : ps = [(x, -1)] := by
          match ps, hn, hp with
          | [q], _, hp => simp at hp; rw [hp]
        rw [hps]
        simp [body, tailL, piece_text]
    · exact expand_any tb pb 1 f ar sl a a5 n4 c4 n5 c5 ps xs w hT hn hl hn4 hc4 hl4 ht4 hf hok hsz hpb (Or.inr (Or.inl ⟨rfl, by decide, z, q1, beq_eq_false_iff_ne.2 hz⟩))
  · exact expand_any tb pb n f ar sl a a5 n4 c4 n5 c5 ps xs w hT hn hl hn4 hc4 hl4 ht4 hf hok hsz hpb (Or.inl (beq_eq_false_iff_ne.2 (by omega)))

theorem tmpl_mk (wr : World) (g n f : Nat) (ar sl : Bool) (a : Option Addr) (n4 c4 : Nat) (ps : List (ByteArray × Int)) (xs : List ByteArray)
    (hp : ∀ (j : Nat) p, ps[j]? = some p → wr.cell? ⟨g, j * 2, none⟩ = some (.string p.1) ∧ wr.cell? ⟨g, j * 2 + 1, none⟩ = some (.int .i64 p.2)) (hS : Strs wr a xs) :
    Tmpl (wr.alloc (.cells #[.slice (some ⟨g, 0, none⟩) n n, .int .i64 f, .bool ar, .bool sl] 43)) wr.heap.size g n f ar sl a n4 c4 ps xs := by
  have hb : Below wr.heap.size wr (wr.alloc (.cells #[.slice (some ⟨g, 0, none⟩) n n, .int .i64 f, .bool ar, .bool sl] 43)) := (Below.refl _ _).alloc (Nat.le_refl _) _
  refine ⟨by simp, by simp, by simp, by simp, fun k p h => ?_, fun k p h => ?_, hS.below hb⟩
  · have := (hp k p h).1
    rw [hb.cell (p := ⟨g, k * 2, none⟩) (cell_lt this)]; exact this
  · have := (hp k p h).2
    rw [hb.cell (p := ⟨g, k * 2 + 1, none⟩) (cell_lt this)]; exact this

theorem zip_ok {xs : List ByteArray} {zs : List Int} {n4 n : Nat} (e1 : zs.length = n) (hok : okTo n4 zs n) : ∀ (k : Nat) p, (xs.zip zs)[k]? = some p → okIdx n4 p.2 := by
  intro k p h
  rw [List.getElem?_zip_eq_some] at h
  exact hok k p.2 (by rw [← e1]; exact (List.getElem?_eq_some_iff.1 h.2).1) h.2

theorem zip_size {xs : List ByteArray} {zs : List Int} (ht : tot xs ≤ 1048576) : ∀ (k : Nat) p, (xs.zip zs)[k]? = some p → p.1.size ≤ 1048576 := by
  intro k p h
  rw [List.getElem?_zip_eq_some] at h
  exact Nat.le_trans (size_le xs k p.1 h.1) ht

set_option maxHeartbeats 1000000 in
theorem zzExpand_any (a0 a1 a4 a5 : Option Addr) (n c0 c1 n4 c4 n5 c5 : Nat) (f : Nat) (ar sl : Bool) (xs0 xs4 : List ByteArray) (zs : List Int) (w : World)
    (h0 : Strs w a0 xs0) (e0 : xs0.length = n) (h1 : Ints w a1 zs) (e1 : zs.length = n) (h4 : Strs w a4 xs4) (e4 : xs4.length = n4) (hc4 : n4 ≤ c4)
    (l0 : n ≤ 1048576) (l4 : n4 ≤ 1048576) (t0 : tot xs0 ≤ 1048576) (t4 : tot xs4 ≤ 1048576) (hf : f ≤ n4) (hok : okTo n4 zs n) :
    Calls Try.prog 18 #[.slice a0 n c0, .slice a1 n c1, .int .i64 f, .bool ar, .bool sl, .slice a4 n4 c4, .slice a5 n5 c5] w fun e w' =>
      e = .returned (.string ⟨(body xs4 f (xs0.zip zs) ++ tailL xs4 f ar sl).toArray⟩) ∧ Below w.heap.size w w' := by
  obtain ⟨i, hi, hz0, hz1, hz2⟩ := info_parts info40
  obtain ⟨W1, hrun, hown, hgrow⟩ := run_make_full (P := Try.prog) w w.heap.size 38 40 i (.agg #[.string ⟨#[]⟩, .int .i64 0]) 2 Try.underlying38 hi hz0 hz1 .i64 .i64 n (by rw [hz2]; omega) (by unfold maxLen; omega) (Nat.le_refl _)
  have hb : Below w.heap.size w W1 := (Below.refl _ w).grown hgrow (Nat.le_refl _) (fun k h => by cases h)
  have hR : PRow W1 w.heap.size w.heap.size n (xs0.zip zs) 0 := PRow.start hown
  have H0 := hide h0
  have H1 := hide h1
  have E0 := hide e0
  have E1 := hide e1
  have H4 := hide h4
  have E4 := hide e4
  have Hok := hide hok
  clear h0 h1 e0 e1 h4 e4 hok hown hgrow hz0 hz1 hz2 hi
  go_enter Try.func18, Try.ntmps18
  go_wp2
  go_loopw [16] (fun iv wr => ∃ k : Nat, k ≤ n ∧ iv = .int .i64 k ∧ PRow wr w.heap.size w.heap.size n (xs0.zip zs) k ∧ Below w.heap.size w wr) (fun iv _ => n - (intOf iv).toNat)
  case atStart => exact ⟨0, by omega, rfl, hR, hb⟩
  case round =>
    clear hR hb hrun
    obtain ⟨k, hk, rfl, hR, hb⟩ := hrel
    by_cases hlt : k < n
    · obtain ⟨x, hx⟩ := at_lt xs0 k n E0.out hlt
      obtain ⟨z, hz⟩ := at_lt zs k n E1.out hlt
      obtain ⟨bk, off, rfl, hc⟩ := H0.out k x hx
      obtain ⟨bi, oi, rfl, hci⟩ := H1.out k z hz
      have hcr : wr.cell? ⟨bk, off + k, none⟩ = some (.string x) := by rw [hb.cell (p := ⟨bk, off + k, none⟩) (cell_lt hc)]; exact hc
      have hcir : wr.cell? ⟨bi, oi + k, none⟩ = some (.int .i64 z) := by rw [hb.cell (p := ⟨bi, oi + k, none⟩) (cell_lt hci)]; exact hci
      obtain ⟨v0, hv0⟩ := hR.cell (k * 2) (by omega)
      obtain ⟨v1, hv1⟩ := hR.cell (k * 2 + 1) (by omega)
      have hf0 := hR.frozen (k * 2)
      have hf1 := hR.frozen (k * 2 + 1)
      have hR' := hide (hR.step hlt (zip_at hx hz))
      have hlt0 : (0 : Int) ≤ (k : Int) := by omega
      have hlt1 : (k : Int) < (n : Int) := by omega
      clear hR hx hz hc hci
      have hb' := hide ((hb.setCell (p := ⟨w.heap.size, k * 2, none⟩) (Nat.le_refl _) (.string x)).setCell (p := ⟨w.heap.size, k * 2 + 1, none⟩) (Nat.le_refl _) (.int .i64 z))
      clear hb
      go_wp2
      go_region
      go_wp2
      go_roundw
      case rel => exact ⟨k + 1, by omega, by go_num, hR', hb'.out.drew⟩
      case measure => simp [intOf]; omega
    · have hk0 : k = n := by omega
      rw [hk0] at hR
      have hlen : (xs0.zip zs).length = n := by rw [List.length_zip, E0.out, E1.out, Nat.min_self]
      have hgt := hR.lt
      have hp := fun j p hj => hR.read hlen j p hj
      clear hk0 hR
      have Hp := hide hp
      have Hlen := hide hlen
      clear hp hlen
      have hS4 := hide (H4.out.below hb)
      go_wp2_with fail
      refine (expand_all wr.heap.size w.heap.size n f ar sl a4 a5 n4 c4 n5 c5 (xs0.zip zs) xs4 _ (tmpl_mk wr w.heap.size n f ar sl a4 n4 c4 (xs0.zip zs) xs4 Hp.out hS4.out) Hlen.out l0 E4.out hc4 l4 t4 hf (zip_ok E1.out Hok.out) (zip_size t0) (by simp; omega)).mono ?_
      rintro e w2 ⟨rfl, hb2⟩
      go_wp2
      go_ret
      exact ⟨rfl, (hb.alloc (by omega) _).trans (hb2.mono (by simp; omega))⟩
end Go.Proofs.Qxb6605547a.Ex
