import Derived.Test.Qxb6003612aAt3
import Derived.Deep.RegionWith
namespace Go.Proofs.Qxb6003612a.At
open Go.ChangeShapes Go.WideShapes Go.ChangeAt Go.RowKit

/-- does one of the first k bear the name? -/
def pres (zs : List ZA) (q : ByteArray) (k : Nat) : Bool := (zs.take k).any fun z => z.nm.toList == q.toList
/-- is one of the first k that bear the name this one? -/
def matc (zs : List ZA) (q : ByteArray) (y : ZA) (k : Nat) : Bool := (zs.take k).any fun z => z.nm.toList == q.toList && z.eqv y

theorem pres_succ {zs : List ZA} {q : ByteArray} {k : Nat} {z : ZA} (hz : zs[k]? = some z) : pres zs q (k + 1) = (pres zs q k || z.nm.toList == q.toList) := by
  unfold pres
  rw [List.take_add_one, hz]; simp
theorem matc_succ {zs : List ZA} {q : ByteArray} {y : ZA} {k : Nat} {z : ZA} (hz : zs[k]? = some z) : matc zs q y (k + 1) = (matc zs q y k || (z.nm.toList == q.toList && z.eqv y)) := by
  unfold matc
  rw [List.take_add_one, hz]; simp
theorem pres_zero (zs : List ZA) (q : ByteArray) : pres zs q 0 = false := by simp [pres]
theorem matc_zero (zs : List ZA) (q : ByteArray) (y : ZA) : matc zs q y 0 = false := by simp [matc]

theorem pres_all (zs : List ZA) (q : ByteArray) (n : Nat) (hn : zs.length = n) : pres zs q n = (find zs q).isSome := by
  unfold pres find
  rw [List.take_of_length_le (by omega), Bool.eq_iff_iff, List.find?_isSome, List.any_eq_true]

theorem matc_all (zs : List ZA) (q : ByteArray) (n : Nat) (hn : zs.length = n) (h : (find zs q).isSome = true) : matc zs q ((find zs q).getD ZA.zero) n = true := by
  obtain ⟨z, hz⟩ := Option.isSome_iff_exists.1 h
  rw [hz]
  unfold matc
  rw [List.take_of_length_le (by omega), List.any_eq_true]
  unfold find at hz
  have h1 := List.find?_some hz
  have h2 := List.mem_of_find?_eq_some hz
  refine ⟨z, h2, ?_⟩
  simp only [Option.getD_some, Bool.and_eq_true]
  exact ⟨h1, (ZA.eqv_iff z z).2 rfl⟩

/-- how the three answers hang together -/
def Agree (o p s : Option ZA) : Prop := (p.isSome = true ∧ o = p) ∨ (p = none ∧ o = s)

theorem agree (zs : List ZA) (q : ByteArray) (k : Nat) : Agree (find zs q) (find (zs.take k) q) (find (zs.drop k) q) := by
  unfold Agree find
  have h : zs.find? (fun z => z.nm.toList == q.toList) = ((zs.take k).find? (fun z => z.nm.toList == q.toList)).or ((zs.drop k).find? (fun z => z.nm.toList == q.toList)) := by
    rw [← List.find?_append, List.take_append_drop]
  rw [h]
  cases (zs.take k).find? (fun z => z.nm.toList == q.toList) with
  | none => exact Or.inr ⟨rfl, by simp⟩
  | some y => exact Or.inl ⟨rfl, by simp⟩

theorem Attrs.take {w : World} {a : Option Addr} {zs : List ZA} (h : Attrs w a zs) (k : Nat) : Attrs w a (zs.take k) := by
  intro j z hz
  rw [List.getElem?_take] at hz
  split at hz
  · exact h j z hz
  · cases hz

theorem Attrs.drop {w : World} {g : Nat} {zs : List ZA} (h : Attrs w (some ⟨g, 0, none⟩) zs) (k : Nat) : Attrs w (some ⟨g, k * 8, none⟩) (zs.drop k) := by
  intro j z hz
  rw [List.getElem?_drop] at hz
  obtain ⟨bk, off, h1, h2⟩ := h (k + j) z hz
  have h3 := Option.some.inj h1
  simp only [Addr.mk.injEq, and_true] at h3
  obtain ⟨rfl, rfl⟩ := h3
  refine ⟨g, k * 8, rfl, ?_⟩
  rw [Nat.zero_add, Nat.add_mul] at h2
  exact h2

theorem attrs_nil (w : World) (a : Option Addr) : Attrs w a [] := fun k z h => by simp at h

/-- one answer, taken apart -/
def Ans (o : Option ZA) (z : ZA) (f : Bool) : Prop := o.getD ZA.zero = z ∧ o.isSome = f

theorem Ans.ret {o : Option ZA} {z : ZA} {f : Bool} {e : Ending} (h : Ans o z f) (he : Answer e o) : e = .returned (.tuple #[z.att, .bool f]) := by
  obtain ⟨h1, h2⟩ := h
  rw [← h1, ← h2]; exact he

/-- how the three answers hang together, taken apart -/
def Agree2 (wz : ZA) (wf : Bool) (pz : ZA) (pf : Bool) (sz : ZA) (sf : Bool) : Prop := (pf = true ∧ wf = true ∧ wz = pz) ∨ (pf = false ∧ wf = sf ∧ wz = sz)

theorem pack (zs : List ZA) (q : ByteArray) (k : Nat) : ∃ wz wf pz pf sz sf, Ans (find zs q) wz wf ∧ Ans (find (zs.take k) q) pz pf ∧ Ans (find (zs.drop k) q) sz sf ∧ Agree2 wz wf pz pf sz sf ∧
    (wf = false → wz = ZA.zero) ∧ pres zs q zs.length = wf ∧ (wf = true → matc zs q wz zs.length = true) := by
  refine ⟨_, _, _, _, _, _, ⟨rfl, rfl⟩, ⟨rfl, rfl⟩, ⟨rfl, rfl⟩, ?_, ?_, pres_all zs q _ rfl, matc_all zs q _ rfl⟩
  · rcases agree zs q k with ⟨h1, h2⟩ | ⟨h1, h2⟩
    · exact Or.inl ⟨h1, by rw [h2]; exact h1, by rw [h2]⟩
    · exact Or.inr ⟨by rw [h1]; rfl, by rw [h2], by rw [h2]⟩
  · intro h
    cases hf : find zs q with
    | none => rfl
    | some z => rw [hf] at h; cases h

theorem ret_true {a : Bool} (h : a = true) : Ending.returned (.bool a) = .returned (.bool true) := by rw [h]

theorem eq_self_att (z : ZA) (W : World) : (binOp .eql 32 (.agg #[.string z.nm, .int .i64 z.sc, .bool z.li, .string z.de, .bool z.ge, .pointer none, .bool z.un, .string z.pw, .string z.mi]) (.agg #[.string z.nm, .int .i64 z.sc, .bool z.li, .string z.de, .bool z.ge, .pointer none, .bool z.un, .string z.pw, .string z.mi])).run Try.prog W = .ok (.bool true) W := by
  have h := eql_att z z W
  unfold ZA.att at h
  rw [h, (ZA.eqv_iff z z).2 rfl]

theorem ne_self_att (z : ZA) (W : World) : (binOp .neq 32 (.agg #[.string z.nm, .int .i64 z.sc, .bool z.li, .string z.de, .bool z.ge, .pointer none, .bool z.un, .string z.pw, .string z.mi]) (.agg #[.string z.nm, .int .i64 z.sc, .bool z.li, .string z.de, .bool z.ge, .pointer none, .bool z.un, .string z.pw, .string z.mi])).run Try.prog W = .ok (.bool false) W := by
  have h := neq_att z z W
  unfold ZA.att at h
  rw [h, (ZA.eqv_iff z z).2 rfl]; rfl

theorem At9.mk0 (w : World) (z : ZA) : At9 (w.alloc (.cells #[.string z.nm, .int .i64 z.sc, .bool z.li, .string z.de, .bool z.ge, .pointer none, .bool z.un, .string z.pw, .string z.mi] 32)) w.heap.size 0 z :=
  ⟨by simp, by simp, by simp, by simp, by simp, by simp, by simp, by simp, by simp⟩

set_option maxRecDepth 100000 in
set_option maxHeartbeats 8000000 in
theorem walk3 (a : Option Addr) (n c : Nat) (k0 : Int) (q : ByteArray) (zs : List ZA) (w : World)
    (hA : Attrs w a zs) (hn : zs.length = n) (hl : n ≤ maxLen) (hq : q.size ≤ maxLen)
    (hz : ∀ z ∈ zs, z.nm.size ≤ maxLen ∧ z.de.size ≤ maxLen ∧ z.pw.size ≤ maxLen ∧ z.mi.size ≤ maxLen) :
    Calls Try.prog 3 #[.slice a n c, .int .i64 k0, .string q] w fun e w' => e = .returned (.bool true) ∧ Below w.heap.size w w' := by
  have Hz := hide (zzBytes7_any a n c k0 q zs w hA hn hl hq hz)
  have HA := hide hA
  have HN := hide hn
  clear hA hn hz
  unfold maxLen at hl hq
  go_enter Try.func3, Try.ntmps3
  go_wp2_with fail
  refine Hz.out.mono ?_
  rintro e w1 ⟨⟨b, hb, rfl⟩, rfl⟩
  clear Hz
  cases b with
  | false =>
    clear hb
    go_wp2_with fail
    go_ret
    exact ⟨rfl, Below.refl _ _⟩
  | true =>
    have hT := hb rfl
    clear hb
    by_cases g0 : (65536 : Int) < n
    · go_wp2_with fail
      go_ret
      exact ⟨rfl, Below.refl _ _⟩
    by_cases g1 : (65536 : Int) < q.size
    · go_wp2_with fail
      go_ret
      exact ⟨rfl, Below.refl _ _⟩
    have t0 : tot zs ≤ 1048576 := by omega
    have l0 : n ≤ 1048576 := by omega
    clear hT hl hq
    go_wp2_with fail
    refine (over_any a n c _ zs w1 HA.out HN.out l0 t0 (by omega) (by omega)).mono ?_
    rintro e w2 ⟨⟨b, rfl⟩, hb2⟩
    cases b with
    | true =>
      go_wp2_with fail
      go_ret
      exact ⟨rfl, hb2⟩
    | false =>
      by_cases g2 : k0 < 0
      · go_wp2_with fail
        go_ret
        exact ⟨rfl, hb2⟩
      by_cases g3 : (n : Int) < k0
      · go_wp2_with fail
        go_ret
        exact ⟨rfl, hb2⟩
      obtain ⟨k, rfl⟩ := Int.eq_ofNat_of_zero_le (show 0 ≤ k0 by omega)
      have hk : k ≤ n := by omega
      clear g2 g3
      have B2 := hide hb2
      have HA2 := hide (HA.out.below hb2)
      clear hb2 HA
      go_wp2_with fail
      refine (clone_any a n c zs w2 HA2.out HN.out l0).mono ?_
      rintro e w3 ⟨hret, hb3⟩
      have B3 := hide (B2.out.trans (hb3.mono B2.out.size))
      clear hb3 HA2 B2
      rcases hret with ⟨hzn, rfl, rfl⟩ | ⟨g, rfl, hA3⟩
      · subst hzn
        obtain rfl : k = 0 := by omega
        have he := eq_self_att ZA.zero
        have hne := ne_self_att ZA.zero
        have g32 := guard32
        simp only [ZA.zero] at he hne
        go_wp2_with fail
        refine (modelOf_any none 0 0 [] w3 (attrs_nil _ _) rfl (by omega)).mono ?_
        rintro e w4 ⟨⟨m1, r1, rfl, hM1⟩, hb4⟩
        have B4 := hide (B3.out.trans (hb4.mono B3.out.size))
        have HM1 := hide hM1
        clear hb4 B3 hM1
        go_wp2_with fail
        refine (modelOf_any _ 0 _ [] w4 (attrs_nil _ _) rfl (by omega)).mono ?_
        rintro e w5 ⟨⟨m2, r2, rfl, hM2⟩, hb5⟩
        have B5 := hide (B4.out.trans (hb5.mono B4.out.size))
        have HM1' := hide (HM1.out.below hb5)
        have HM2 := hide hM2
        clear hb5 B4 hM2 HM1
        go_wp2_with fail
        refine (modelOf_any _ 0 _ [] w5 (attrs_nil _ _) rfl (by omega)).mono ?_
        rintro e w6 ⟨⟨m3, r3, rfl, hM3⟩, hb6⟩
        have B6 := hide (B5.out.trans (hb6.mono B5.out.size))
        have HM1 := hide (HM1'.out.below hb6)
        have HM2' := hide (HM2.out.below hb6)
        have HM3 := hide hM3
        clear hb6 B5 hM3 HM1' HM2
        go_wp2_with fail
        refine (attribute_any m1 r1 0 q [] w6 HM1.out (by omega)).mono ?_
        rintro e w7 ⟨he1, hb7⟩
        obtain rfl : e = .returned (.tuple #[.agg #[.string ⟨#[]⟩, .int .i64 0, .bool false, .string ⟨#[]⟩, .bool false, .pointer none, .bool false, .string ⟨#[]⟩, .string ⟨#[]⟩], .bool false]) := he1
        have B7 := hide (B6.out.trans (hb7.mono B6.out.size))
        have HM2 := hide (HM2'.out.below hb7)
        have HM3' := hide (HM3.out.below hb7)
        clear hb7 B6 HM1 HM2' HM3
        go_wp2_with fail
        have hW : At9 (w7.alloc (.cells #[.string ⟨#[]⟩, .int .i64 0, .bool false, .string ⟨#[]⟩, .bool false, .pointer none, .bool false, .string ⟨#[]⟩, .string ⟨#[]⟩] 32)) w7.heap.size 0 ZA.zero := At9.mk0 w7 ZA.zero
        have hbw : Below w7.heap.size w7 (w7.alloc (.cells #[.string ⟨#[]⟩, .int .i64 0, .bool false, .string ⟨#[]⟩, .bool false, .pointer none, .bool false, .string ⟨#[]⟩, .string ⟨#[]⟩] 32)) := (Below.refl _ _).alloc (Nat.le_refl _) _
        generalize w7.alloc (.cells #[.string ⟨#[]⟩, .int .i64 0, .bool false, .string ⟨#[]⟩, .bool false, .pointer none, .bool false, .string ⟨#[]⟩, .string ⟨#[]⟩] 32) = w8 at *
        have B8 := hide (B7.out.trans (hbw.mono B7.out.size))
        have HM2' := hide (HM2.out.below hbw)
        have HM3 := hide (HM3'.out.below hbw)
        generalize w7.heap.size = bw at *
        have HW8 := hide hW
        clear hW hbw B7 HM2 HM3'
        refine (attribute_any m2 r2 0 q [] w8 HM2'.out (by omega)).mono ?_
        rintro e w9 ⟨he1, hb9⟩
        obtain rfl : e = .returned (.tuple #[.agg #[.string ⟨#[]⟩, .int .i64 0, .bool false, .string ⟨#[]⟩, .bool false, .pointer none, .bool false, .string ⟨#[]⟩, .string ⟨#[]⟩], .bool false]) := he1
        have B9 := hide (B8.out.trans (hb9.mono B8.out.size))
        have HM3' := hide (HM3.out.below hb9)
        have HW9 := hide (HW8.out.below hb9 (cell_lt HW8.out.c0))
        clear hb9 B8 HM2' HM3 HW8
        go_wp2_with fail
        have hbp : Below w9.heap.size w9 (w9.alloc (.cells #[.string ⟨#[]⟩, .int .i64 0, .bool false, .string ⟨#[]⟩, .bool false, .pointer none, .bool false, .string ⟨#[]⟩, .string ⟨#[]⟩] 32)) := (Below.refl _ _).alloc (Nat.le_refl _) _
        generalize w9.alloc (.cells #[.string ⟨#[]⟩, .int .i64 0, .bool false, .string ⟨#[]⟩, .bool false, .pointer none, .bool false, .string ⟨#[]⟩, .string ⟨#[]⟩] 32) = w10 at *
        have B10 := hide (B9.out.trans (hbp.mono B9.out.size))
        have HM3 := hide (HM3'.out.below hbp)
        have HW10 := hide (HW9.out.below hbp (cell_lt HW9.out.c0))
        generalize w9.heap.size = bp at *
        clear hbp B9 HM3' HW9
        refine (attribute_any m3 r3 0 q [] w10 HM3.out (by omega)).mono ?_
        rintro e w11 ⟨he1, hb11⟩
        obtain rfl : e = .returned (.tuple #[.agg #[.string ⟨#[]⟩, .int .i64 0, .bool false, .string ⟨#[]⟩, .bool false, .pointer none, .bool false, .string ⟨#[]⟩, .string ⟨#[]⟩], .bool false]) := he1
        have B11 := hide (B10.out.trans (hb11.mono B10.out.size))
        have HW11 := hide (HW10.out.below hb11 (cell_lt HW10.out.c0))
        clear hb11 B10 HM3 HW10
        go_wp2_with fail
        have hS : At9 (w11.alloc (.cells #[.string ⟨#[]⟩, .int .i64 0, .bool false, .string ⟨#[]⟩, .bool false, .pointer none, .bool false, .string ⟨#[]⟩, .string ⟨#[]⟩] 32)) w11.heap.size 0 ZA.zero := At9.mk0 w11 ZA.zero
        have hbs : Below w11.heap.size w11 (w11.alloc (.cells #[.string ⟨#[]⟩, .int .i64 0, .bool false, .string ⟨#[]⟩, .bool false, .pointer none, .bool false, .string ⟨#[]⟩, .string ⟨#[]⟩] 32)) := (Below.refl _ _).alloc (Nat.le_refl _) _
        generalize w11.alloc (.cells #[.string ⟨#[]⟩, .int .i64 0, .bool false, .string ⟨#[]⟩, .bool false, .pointer none, .bool false, .string ⟨#[]⟩, .string ⟨#[]⟩] 32) = w12 at *
        have B12 := hide (B11.out.trans (hbs.mono B11.out.size))
        have HW12 := hide (HW11.out.below hbs (cell_lt HW11.out.c0))
        generalize w11.heap.size = bs at *
        obtain ⟨d0, d1, d2, d3, d4, d5, d6, d7, d8⟩ := HW12.out
        obtain ⟨f0, f1, f2, f3, f4, f5, f6, f7, f8⟩ := hS
        simp only [ZA.zero] at d0 d1 d2 d3 d4 d6 d7 d8 f0 f1 f2 f3 f4 f6 f7 f8
        clear hbs B11 HW11 HW12
        go_loop [16, 17, 18] (fun pv mv iv => pv = .bool false ∧ mv = .bool false ∧ iv = .int .i64 0) (fun _ _ _ => 0)
        case atStart => exact ⟨rfl, rfl, rfl⟩
        case round =>
          obtain ⟨rfl, rfl, rfl⟩ := hrel
          go_wp2_with fail
          go_ret
          exact ⟨rfl, B12.out⟩
      · go_wp2_with fail
        refine (modelOf_any (some ⟨g, 0, none⟩) n n zs w3 hA3 HN.out (by omega)).mono ?_
        rintro e w4 ⟨⟨m1, r1, rfl, hM1⟩, hb4⟩
        have HA4 := hide (hA3.below hb4)
        have B4 := hide (B3.out.trans (hb4.mono B3.out.size))
        have HM1 := hide hM1
        clear hA3 hb4 B3 hM1
        go_wp2_with fail
        refine (modelOf_any (some ⟨g, 0, none⟩) k n (zs.take k) w4 (HA4.out.take k) (by rw [List.length_take, HN.out]; omega) (by omega)).mono ?_
        rintro e w5 ⟨⟨m2, r2, rfl, hM2⟩, hb5⟩
        have HA5 := hide (HA4.out.below hb5)
        have B5 := hide (B4.out.trans (hb5.mono B4.out.size))
        have HM1' := hide (HM1.out.below hb5)
        have HM2 := hide hM2
        clear hb5 B4 hM2 HM1 HA4
        have hkk : k < n ∨ k = n := by omega
        rcases hkk with hkn | rfl
        all_goals
          go_wp2_with fail
          refine (modelOf_any _ _ _ (zs.drop k) w5 ?hA ?hn ?hl).mono ?_
          case hA => first | exact HA5.out.drop k | (rw [List.drop_of_length_le (by rw [HN.out]; exact Nat.le_refl _)]; exact attrs_nil _ _)
          case hn => rw [List.length_drop, HN.out] <;> simp
          case hl => omega
          rintro e w6 ⟨⟨m3, r3, rfl, hM3⟩, hb6⟩
          have HA6 := hide (HA5.out.below hb6)
          have B6 := hide (B5.out.trans (hb6.mono B5.out.size))
          have HM1 := hide (HM1'.out.below hb6)
          have HM2' := hide (HM2.out.below hb6)
          have HM3 := hide hM3
          clear hb6 B5 hM3 HM1' HM2 HA5
          obtain ⟨wz, wf, pz, pf, sz, sf, A1, A2, A3, AG, AZ, AP, AM⟩ := pack zs q k
          have HA1 := hide A1
          have HA2 := hide A2
          have HA3 := hide A3
          have HAG := hide AG
          have HAZ := hide AZ
          have HAP := hide AP
          have HAM := hide AM
          clear A1 A2 A3 AG AZ AP AM
          go_wp2_with fail
          refine (attribute_any m1 r1 _ q zs w6 HM1.out (by omega)).mono ?_
          rintro e w7 ⟨he, hb7⟩
          obtain rfl := HA1.out.ret he
          clear he
          unfold ZA.att
          have HA7 := hide (HA6.out.below hb7)
          have B7 := hide (B6.out.trans (hb7.mono B6.out.size))
          have HM2 := hide (HM2'.out.below hb7)
          have HM3' := hide (HM3.out.below hb7)
          clear hb7 B6 HM1 HM2' HM3 HA6
          go_wp2_with fail
          have hW := At9.mk0 w7 wz
          have hbw : Below w7.heap.size w7 (w7.alloc (.cells #[.string wz.nm, .int .i64 wz.sc, .bool wz.li, .string wz.de, .bool wz.ge, .pointer none, .bool wz.un, .string wz.pw, .string wz.mi] 32)) := (Below.refl _ _).alloc (Nat.le_refl _) _
          generalize w7.alloc (.cells #[.string wz.nm, .int .i64 wz.sc, .bool wz.li, .string wz.de, .bool wz.ge, .pointer none, .bool wz.un, .string wz.pw, .string wz.mi] 32) = w8 at *
          have HA8 := hide (HA7.out.below hbw)
          have B8 := hide (B7.out.trans (hbw.mono B7.out.size))
          have HM2' := hide (HM2.out.below hbw)
          have HM3 := hide (HM3'.out.below hbw)
          generalize w7.heap.size = bw at *
          have HW8 := hide hW
          clear hW hbw B7 HM2 HM3' HA7
          refine (attribute_any m2 r2 _ q (zs.take k) w8 HM2'.out (by omega)).mono ?_
          rintro e w9 ⟨he, hb9⟩
          obtain rfl := HA2.out.ret he
          clear he
          unfold ZA.att
          have HA9 := hide (HA8.out.below hb9)
          have B9 := hide (B8.out.trans (hb9.mono B8.out.size))
          have HM3' := hide (HM3.out.below hb9)
          have HW9 := hide (HW8.out.below hb9 (cell_lt HW8.out.c0))
          clear hb9 B8 HM2' HM3 HA8 HW8
          go_wp2_with fail
          have hP := At9.mk0 w9 pz
          have hbp : Below w9.heap.size w9 (w9.alloc (.cells #[.string pz.nm, .int .i64 pz.sc, .bool pz.li, .string pz.de, .bool pz.ge, .pointer none, .bool pz.un, .string pz.pw, .string pz.mi] 32)) := (Below.refl _ _).alloc (Nat.le_refl _) _
          generalize w9.alloc (.cells #[.string pz.nm, .int .i64 pz.sc, .bool pz.li, .string pz.de, .bool pz.ge, .pointer none, .bool pz.un, .string pz.pw, .string pz.mi] 32) = w10 at *
          have HA10 := hide (HA9.out.below hbp)
          have B10 := hide (B9.out.trans (hbp.mono B9.out.size))
          have HM3 := hide (HM3'.out.below hbp)
          have HW10 := hide (HW9.out.below hbp (cell_lt HW9.out.c0))
          generalize w9.heap.size = bp at *
          have HP10 := hide hP
          clear hP hbp B9 HM3' HA9 HW9
          refine (attribute_any m3 r3 _ q (zs.drop k) w10 HM3.out (by omega)).mono ?_
          rintro e w11 ⟨he, hb11⟩
          obtain rfl := HA3.out.ret he
          clear he
          unfold ZA.att
          have HA11 := hide (HA10.out.below hb11)
          have B11 := hide (B10.out.trans (hb11.mono B10.out.size))
          have HW11 := hide (HW10.out.below hb11 (cell_lt HW10.out.c0))
          have HP11 := hide (HP10.out.below hb11 (cell_lt HP10.out.c0))
          clear hb11 B10 HM3 HA10 HW10 HP10
          go_wp2_with fail
          have hS := At9.mk0 w11 sz
          have hbs : Below w11.heap.size w11 (w11.alloc (.cells #[.string sz.nm, .int .i64 sz.sc, .bool sz.li, .string sz.de, .bool sz.ge, .pointer none, .bool sz.un, .string sz.pw, .string sz.mi] 32)) := (Below.refl _ _).alloc (Nat.le_refl _) _
          generalize w11.alloc (.cells #[.string sz.nm, .int .i64 sz.sc, .bool sz.li, .string sz.de, .bool sz.ge, .pointer none, .bool sz.un, .string sz.pw, .string sz.mi] 32) = w12 at *
          have HA12 := hide (HA11.out.below hbs)
          have B12 := hide (B11.out.trans (hbs.mono B11.out.size))
          have HW12 := hide (HW11.out.below hbs (cell_lt HW11.out.c0))
          have HP12 := hide (HP11.out.below hbs (cell_lt HP11.out.c0))
          generalize w11.heap.size = bs at *
          have HS12 := hide hS
          clear hS hbs B11 HA11 HW11 HP11 HA1 HA2 HA3
          go_loopw [16, 17, 18] (fun pv mv iv wr => ∃ j : Nat, Hid (j ≤ zs.length) ∧ iv = .int .i64 j ∧ pv = .bool (pres zs q j) ∧ mv = .bool (matc zs q wz j) ∧ Below w12.heap.size w12 wr) (fun _ _ iv _ => zs.length - (intOf iv).toNat)
          case atStart => exact ⟨0, Nat.zero_le _, rfl, by rw [pres_zero], by rw [matc_zero], Below.refl _ _⟩
          case round =>
            obtain ⟨j, hj, rfl, rfl, rfl, hbr⟩ := hrel
            have hj' := hj.out
            rw [HN.out] at hj'
            have hbt := B12.out.trans (hbr.mono B12.out.size)
            have hWr := HW12.out.below hbr (cell_lt HW12.out.c0)
            by_cases hlt : j < zs.length
            · have hlt' := hlt
              rw [HN.out] at hlt'
              obtain ⟨z, hz⟩ := at_lt zs j _ rfl hlt
              have Hps := hide (pres_succ (q := q) hz)
              have Hms := hide (matc_succ (q := q) (y := wz) hz)
              obtain ⟨bk, off, had, h8⟩ := HA12.out.below hbr j z hz
              have had2 := Option.some.inj had
              simp only [Addr.mk.injEq, and_true] at had2
              obtain ⟨rfl, rfl⟩ := had2
              rw [Nat.zero_add] at h8
              have H8 := hide h8
              have HWr := hide hWr
              have hbb := hide hbt
              obtain ⟨c0, c1, c2, c3, c4, c5, c6, c7⟩ := h8
              obtain ⟨d0, d1, d2, d3, d4, d5, d6, d7, d8⟩ := hWr
              have Hlt := hide hlt
              clear hz had hj hbt hlt
              cases hnm : (z.nm.toList == q.toList) with
              | false =>
                have Hnm := hide hnm
                go_wp2_with fail
                go_roundw
                case rel => exact ⟨j + 1, Hlt.out, by go_num, by rw [Hps.out, Hnm.out, Bool.or_false], by rw [Hms.out, Hnm.out]; simp, hbr⟩
                case measure => have := Hlt.out; simp [intOf]; omega
              | true =>
                have Hnm := hide hnm
                have g32 := guard32
                obtain ⟨ev, hev⟩ : ∃ ev, z.eqv wz = ev := ⟨_, rfl⟩
                have he : ∀ W, (binOp .eql 32 (.agg #[.string z.nm, .int .i64 z.sc, .bool z.li, .string z.de, .bool z.ge, .pointer none, .bool z.un, .string z.pw, .string z.mi]) (.agg #[.string wz.nm, .int .i64 wz.sc, .bool wz.li, .string wz.de, .bool wz.ge, .pointer none, .bool wz.un, .string wz.pw, .string wz.mi])).run Try.prog W = .ok (.bool ev) W := fun W => by
                  have h := eql_att z wz W
                  unfold ZA.att at h
                  rw [h, hev]
                have Hev := hide hev
                clear hev
                cases ev
                all_goals
                  go_wp2_with fail
                  go_region_with ((go_at_call 12; refine (toAttr_any z _).mono ?_; rintro e w13 ⟨rfl, hb13⟩; unfold ZA.att; replace hb13 := Below.trans (Below.drew (Below.refl wr.heap.size wr)) (hb13.mono (by simp)); obtain ⟨f0, f1, f2, f3, f4, f5, f6, f7, f8⟩ := HWr.out.below hb13 (cell_lt HWr.out.c0)))
                  all_goals
                    go_wp2_with fail
                    go_roundw
                    case rel => exact ⟨j + 1, Hlt.out, by go_num, by rw [Hps.out, Hnm.out, Bool.or_true], by rw [Hms.out, Hnm.out, Hev.out]; simp, hbr.trans (hb13.mono hbr.size)⟩
                    case measure => have := Hlt.out; simp [intOf]; omega
            · have hjl : j = zs.length := by have := hj.out; omega
              have hpw : pres zs q j = wf := by rw [hjl]; exact HAP.out
              have Hm : Hid (wf = true → matc zs q wz j = true) := by rw [hjl]; exact HAM.out
              rw [HN.out] at hlt
              have hge : ¬ (j : Int) < (_ : Nat) := fun h => hlt (Int.ofNat_lt.1 h)
              have hPr := HP12.out.below hbr (cell_lt HP12.out.c0)
              have hSr := HS12.out.below hbr (cell_lt HS12.out.c0)
              clear hjl hj hlt
              rw [hpw]
              clear hpw
              generalize matc zs q wz j = mv at *
              have g32 := guard32
              rcases HAG.out with ⟨rfl, rfl, rfl⟩ | ⟨rfl, rfl, rfl⟩
              · obtain rfl := Hm.out rfl
                have he := eq_self_att wz
                obtain ⟨d0, d1, d2, d3, d4, d5, d6, d7, d8⟩ := hWr
                obtain ⟨f0, f1, f2, f3, f4, f5, f6, f7, f8⟩ := hPr
                clear hSr
                go_wp2_with fail
                go_ret
                exact ⟨rfl, hbt⟩
              · cases wf with
                | true =>
                  obtain rfl := Hm.out rfl
                  have he := eq_self_att wz
                  obtain ⟨d0, d1, d2, d3, d4, d5, d6, d7, d8⟩ := hWr
                  obtain ⟨f0, f1, f2, f3, f4, f5, f6, f7, f8⟩ := hSr
                  clear hPr
                  go_wp2_with fail
                  go_ret
                  exact ⟨rfl, hbt⟩
                | false =>
                  have hzz := HAZ.out rfl
                  have he := eq_self_att ZA.zero
                  have hne := ne_self_att ZA.zero
                  obtain ⟨d0, d1, d2, d3, d4, d5, d6, d7, d8⟩ := hWr
                  obtain ⟨f0, f1, f2, f3, f4, f5, f6, f7, f8⟩ := hSr
                  rw [hzz] at d0 d1 d2 d3 d4 d6 d7 d8 f0 f1 f2 f3 f4 f6 f7 f8
                  simp only [ZA.zero] at he hne d0 d1 d2 d3 d4 d6 d7 d8 f0 f1 f2 f3 f4 f6 f7 f8
                  clear hPr hzz
                  go_wp2_with fail
                  go_ret
                  exact ⟨rfl, hbt⟩
end Go.Proofs.Qxb6003612a.At
