import Derived.Test.Qxb6003612aAt5
import Derived.WalkSmall
namespace Go.Proofs.Qxb6003612a.At
open Go.ChangeShapes Go.WideShapes Go.ChangeAt Go.RowKit

set_option maxRecDepth 100000 in
set_option maxHeartbeats 8000000 in
theorem walk4 (a : Option Addr) (n c : Nat) (p0 : Int) (x : ZA) (q : ByteArray) (zs : List ZA) (w : World)
    (hA : Attrs w a zs) (hn : zs.length = n) (hl : n ≤ maxLen) (hq : q.size ≤ maxLen)
    (hx : x.nm.size ≤ maxLen ∧ x.de.size ≤ maxLen ∧ x.pw.size ≤ maxLen ∧ x.mi.size ≤ maxLen)
    (hz : ∀ z ∈ zs, z.nm.size ≤ maxLen ∧ z.de.size ≤ maxLen ∧ z.pw.size ≤ maxLen ∧ z.mi.size ≤ maxLen) :
    Calls Try.prog 4 #[.slice a n c, .int .i64 p0, x.val, .string q] w fun e w' => e = .returned (.bool true) ∧ Below w.heap.size w w' := by
  have hb0 : Below w.heap.size w (w.alloc (.cells #[.string x.nm, .int .i64 x.sc, .bool x.li, .string x.de, .bool x.ge, .bool x.un, .string x.pw, .string x.mi] 36)) := (Below.refl _ _).alloc (Nat.le_refl _) _
  have HA0 := hide (hA.below hb0)
  have S0 : Hid (St w.heap.size w (w.alloc (.cells #[.string x.nm, .int .i64 x.sc, .bool x.li, .string x.de, .bool x.ge, .bool x.un, .string x.pw, .string x.mi] 36)) x) := hide ⟨hb0, At8.mk0 w x⟩
  have HZ := hide (zzBytes13_any a n c p0 x q zs _ HA0.out hn hl hq hx hz)
  have HN := hide hn
  clear hA hn hz hb0 hx
  unfold maxLen at hl hq
  unfold ZA.val at HZ ⊢
  go_enter Try.func4, Try.ntmps4
  go_wp2_with fail
  generalize w.alloc (.cells #[.string x.nm, .int .i64 x.sc, .bool x.li, .string x.de, .bool x.ge, .bool x.un, .string x.pw, .string x.mi] 36) = w0 at *
  refine HZ.out.mono ?_
  rintro e w1 ⟨⟨b, hb, rfl⟩, hb1⟩
  have S1 := hide (S0.out.next hb1)
  have HA1 := hide (HA0.out.below hb1)
  clear HZ S0 HA0 hb1
  cases b with
  | false =>
    clear hb
    go_wp2_with fail
    go_ret
    exact ⟨rfl, S1.out.1⟩
  | true =>
    have hT := hb rfl
    clear hb
    by_cases g0 : (65536 : Int) < n
    · go_wp2_with fail
      go_ret
      exact ⟨rfl, S1.out.1⟩
    by_cases g1 : (65536 : Int) < q.size
    · go_wp2_with fail
      go_ret
      exact ⟨rfl, S1.out.1⟩
    have t0 : tot zs ≤ 1048576 := by omega
    have l0 : n ≤ 65536 := by omega
    have xl : x.len ≤ 1048576 := by omega
    clear hT hl hq
    obtain ⟨c0, c1, c2, c3, c4, c5, c6, c7⟩ := S1.out.2
    go_wp2_with fail
    refine (tooBig_any x w1 xl).mono ?_
    rintro e w2 ⟨⟨b, rfl⟩, hb2⟩
    have S2 := hide (S1.out.next hb2)
    have HA2 := hide (HA1.out.below hb2)
    clear c0 c1 c2 c3 c4 c5 c6 c7 S1 HA1 hb2
    cases b with
    | true =>
      go_wp2_with fail
      go_ret
      exact ⟨rfl, S2.out.1⟩
    | false =>
      obtain ⟨c0, c1, c2, c3, c4, c5, c6, c7⟩ := S2.out.2
      go_wp2_with fail
      refine (bytes_any x w2 xl).mono ?_
      rintro e w3 ⟨⟨m, hm0, hm1, rfl⟩, hb3⟩
      have S3 := hide (S2.out.next hb3)
      have HA3 := hide (HA2.out.below hb3)
      clear c0 c1 c2 c3 c4 c5 c6 c7 S2 HA2 hb3
      go_wp2_with fail
      refine (over_any a n c _ zs w3 HA3.out HN.out (by omega) t0 (by omega) (by omega)).mono ?_
      rintro e w4 ⟨⟨b, rfl⟩, hb4⟩
      have S4 := hide (S3.out.next hb4)
      have HA4 := hide (HA3.out.below hb4)
      clear S3 HA3 hb4 hm0 hm1
      cases b with
      | true =>
        go_wp2_with fail
        go_ret
        exact ⟨rfl, S4.out.1⟩
      | false =>
        by_cases g2 : p0 < 0
        · go_wp2_with fail
          go_ret
          exact ⟨rfl, S4.out.1⟩
        by_cases g3 : (n : Int) < p0
        · go_wp2_with fail
          go_ret
          exact ⟨rfl, S4.out.1⟩
        obtain ⟨p, rfl⟩ := Int.eq_ofNat_of_zero_le (show 0 ≤ p0 by omega)
        have hp : p ≤ n := by omega
        clear g2 g3
        go_wp2_with fail
        refine (clone_any a n c zs w4 HA4.out HN.out (by omega)).mono ?_
        rintro e w5 ⟨hret, hb5⟩
        obtain ⟨a5, rfl, hA5⟩ := hret.one
        have HA5 := hide hA5
        have S5 := hide (S4.out.next hb5)
        clear S4 HA4 hb5 hret hA5
        go_wp2_with fail
        refine (modelOf_any a5 n n zs w5 HA5.out HN.out (by omega)).mono ?_
        rintro e w6 ⟨⟨m1, r1, rfl, hM1⟩, hb6⟩
        have HA6 := hide (HA5.out.below hb6)
        have S6 := hide (S5.out.next hb6)
        have HM1 := hide hM1
        clear S5 HA5 hb6 hM1
        obtain ⟨i, hi, hz0, hz1, hz2⟩ := info36
        have Hi := hide hi
        have Hz0 := hide hz0
        have Hz1 := hide hz1
        have Hz2 := hide hz2
        obtain ⟨W, hrun, hown, hgrow⟩ := run_make_own (P := Try.prog) w6 w6.heap.size 22 36 i _ 8 Try.underlying22 hi hz0 hz1 .i64 .i64 (n + 1) (by rw [hz2]; omega) (by unfold maxLen; omega) (Nat.le_refl _)
        have hbW : Below w6.heap.size w6 W := (Below.refl _ w6).grown hgrow (Nat.le_refl _) (fun k h => by cases h)
        have e1 : ((n + 1 : Nat) : Int) = (n : Int) + 1 := by omega
        rw [e1] at hrun
        clear hi hz0 hz1 hz2 hgrow e1
        go_wp2_with fail
        go_loopw [10, 11] (fun gv iv wr => ∃ j : Nat, Hid (j ≤ p) ∧ iv = .int .i64 j ∧ wr.ownsRow w6.heap.size 36 8 gv j (flat (zs.take j)) ∧ Below w6.heap.size w6 wr) (fun _ iv _ => p - (intOf iv).toNat)
        case atStart => exact ⟨0, Nat.zero_le _, rfl, hown, hbW⟩
        case round =>
          clear hown hbW hrun
          obtain ⟨j, hj, rfl, hown, hb⟩ := hrel
          have hsz := hb.size
          by_cases hlt : j < p
          · obtain ⟨z, hz⟩ := at_lt zs j n HN.out (by omega)
            obtain ⟨bk, off, rfl, h8⟩ := HA6.out j z hz
            obtain ⟨c0, c1, c2, c3, c4, c5, c6, c7⟩ := h8.below hb (cell_lt h8.c0)
            have Ht := hide (take_snoc hz)
            have hlt1 : j < n := by omega
            clear hz h8
            go_wp2_with (at_builtin; refine wpList_append_own _ rfl (.tmp 71) (.tmp 76) 22 rfl w6.heap.size 36 i _ 8 88 Try.underlying22 Hi.out Hz0.out Hz1.out Hz2.out rfl (by decide) _ _ _ rfl (hown.alloc _) ⟨wr.heap.size, 0, none⟩ 1 1 z.cs rfl rfl ?c1 ?c2 ?c3 ?c4 ?c5 ?_)
            case c1 => exact new_cells wr z
            case c2 => exact cs_one z
            case c3 => unfold maxLen; omega
            case c4 => omega
            case c5 => simp; omega
            intro v1 w7 hown1 hgrow1 _
            have hb1 : Below w6.heap.size w6 w7 := (hb.alloc hsz _).grown hgrow1 (by simp; omega) (fun k hk => (hown.lt k hk).1)
            clear hgrow1 hown c0 c1 c2 c3 c4 c5 c6 c7
            go_wp2_with fail
            go_roundw
            case rel => exact ⟨j + 1, hlt, by go_num, by rw [Ht.out, flat_snoc]; exact hown1, hb1⟩
            case measure => simp [intOf]; omega
          · have hjp : j = p := by have := hj.out; omega
            subst hjp
            have hge : ¬ (j : Int) < (j : Nat) := by omega
            obtain ⟨c0, c1, c2, c3, c4, c5, c6, c7⟩ := (S6.out.next hb).2
            have hp' : j ≤ n := hp
            clear hlt hj
            go_wp2_with (at_builtin; refine wpList_append_own _ rfl (.tmp 78) (.tmp 80) 22 rfl w6.heap.size 36 i _ 8 88 Try.underlying22 Hi.out Hz0.out Hz1.out Hz2.out rfl (by decide) _ _ _ rfl (hown.alloc _) ⟨wr.heap.size, 0, none⟩ 1 1 x.cs rfl rfl ?c1 ?c2 ?c3 ?c4 ?c5 ?_)
            case c1 => first | exact new_cells wr x | exact fun _ _ h => h
            case c2 => exact cs_one x
            case c3 => unfold maxLen; omega
            case c4 => omega
            case c5 => first | omega | (simp; omega)
            intro v1 w7 hown1 hgrow1 _
            have hb7 : Below w6.heap.size w6 w7 := (hb.alloc hsz _).grown hgrow1 (by simp; omega) (fun k hk => (hown.lt k hk).1)
            rw [← flat_snoc, ← ins_zero] at hown1
            clear hgrow1 hown c0 c1 c2 c3 c4 c5 c6 c7 hb hsz
            go_wp2_with fail
            go_loopw [10, 12] (fun gv iv wr => ∃ m : Nat, j + m ≤ n ∧ iv = .int .i64 ((j : Int) + (m : Int)) ∧ wr.ownsRow w6.heap.size 36 8 gv (j + 1 + m) (flat (ins zs j x m)) ∧ Below w6.heap.size w6 wr) (fun _ iv _ => n - (intOf iv).toNat)
            case atStart => exact ⟨0, hp', by go_num, hown1, hb7⟩
            case round =>
              clear hown1 hb7
              obtain ⟨m, hm, rfl, hown, hb⟩ := hrel
              have hsz := hb.size
              by_cases hlt : j + m < n
              · obtain ⟨z, hz⟩ := at_lt zs (j + m) n HN.out hlt
                obtain ⟨bk, off, rfl, h8⟩ := HA6.out (j + m) z hz
                obtain ⟨c0, c1, c2, c3, c4, c5, c6, c7⟩ := h8.below hb (cell_lt h8.c0)
                have Ht := hide (ins_succ (x := x) hz)
                have hlt1 : (j : Int) + (m : Int) < n := by omega
                clear hz h8
                go_wp2_with (at_builtin; refine wpList_append_own _ rfl (.tmp 89) (.tmp 94) 22 rfl w6.heap.size 36 i _ 8 88 Try.underlying22 Hi.out Hz0.out Hz1.out Hz2.out rfl (by decide) _ _ _ rfl (hown.alloc _) ⟨wr.heap.size, 0, none⟩ 1 1 z.cs rfl rfl ?c1 ?c2 ?c3 ?c4 ?c5 ?_)
                case c1 => exact new_cells wr z
                case c2 => exact cs_one z
                case c3 => unfold maxLen; omega
                case c4 => omega
                case c5 => simp; omega
                intro v1 w7 hown1 hgrow1 _
                have hb1 : Below w6.heap.size w6 w7 := (hb.alloc hsz _).grown hgrow1 (by simp; omega) (fun k hk => (hown.lt k hk).1)
                clear hgrow1 hown c0 c1 c2 c3 c4 c5 c6 c7
                go_wp2_with fail
                go_roundw
                case rel => exact ⟨m + 1, hlt, by go_num, by rw [Ht.out, flat_snoc]; exact hown1, hb1⟩
                case measure => simp [intOf]; omega
              · have hjm : j + m = n := by omega
                have hge : (n : Int) ≤ (j : Int) + (m : Int) := by omega
                rw [ins_all HN.out hjm, show j + 1 + m = n + 1 by omega] at hown
                have HY : Hid ((zs.take j ++ x :: zs.drop j).length = n + 1) := hide (by rw [List.length_append, List.length_cons, List.length_take, List.length_drop, HN.out]; omega)
                obtain ⟨a8, c8, rfl, hA8⟩ := owns_attrs hown (by omega) HY.out
                have HA8 := hide hA8
                have S8 := hide (S6.out.next hb)
                have HAo := hide (HA6.out.below hb)
                have HMo := hide (HM1.out.below hb)
                clear hown hA8 hb hsz hlt hm HA6 S6 HM1
                go_wp2_with fail
                refine (modelOf_any a8 (n + 1) c8 _ wr HA8.out HY.out (by omega)).mono ?_
                rintro e w9 ⟨⟨m2, r2, rfl, hM2⟩, hb9⟩
                have HA9 := hide (HAo.out.below hb9)
                have S9 := hide (S8.out.next hb9)
                have HM1 := hide (HMo.out.below hb9)
                have HM2 := hide hM2
                clear HA8 HAo S8 HMo hM2 hb9
                go_wp2_with fail
                go_loopw [14, 15] (fun ev iv wr => ∃ k : Nat, Hid (k ≤ j) ∧ iv = .int .i64 k ∧ ev = .bool (pres zs x.nm k) ∧ Below w9.heap.size w9 wr) (fun _ iv _ => j - (intOf iv).toNat)
                case atStart => exact ⟨0, Nat.zero_le _, rfl, by rw [pres_zero], Below.refl _ _⟩
                case round =>
                  obtain ⟨k, hk, rfl, rfl, hb⟩ := hrel
                  by_cases hlt : k < j
                  · obtain ⟨z, hz⟩ := at_lt zs k n HN.out (by omega)
                    obtain ⟨bk, off, rfl, h8⟩ := HA9.out k z hz
                    have c0 := (h8.below hb (cell_lt h8.c0)).c0
                    have d0 := (S9.out.next hb).2.c0
                    have Hp := hide (pres_succ (q := x.nm) hz)
                    have hlt1 : k < n := by omega
                    clear hz h8
                    cases hnm : (z.nm.toList == x.nm.toList)
                    all_goals
                      have Hnm := hide hnm
                      go_wp2_with fail
                      go_quiet (fail)
                      go_wp2_with fail
                      go_roundw
                      case rel => exact ⟨k + 1, hlt, by go_num, by rw [Hp.out, Hnm.out]; simp, below_drewN hb _⟩
                      case measure => simp [intOf]; omega
                  · have hkj : k = j := by have := hk.out; omega
                    subst hkj
                    have hge : ¬ (k : Int) < (k : Nat) := by omega
                    have S10 := hide (S9.out.next hb)
                    have HM1' := hide (HM1.out.below hb)
                    have HM2' := hide (HM2.out.below hb)
                    obtain ⟨c0, c1, c2, c3, c4, c5, c6, c7⟩ := S10.out.2
                    have g32 := guard32
                    clear hlt hk hb S9 HM1 HM2 HA9 Hi Hz0 Hz1 Hz2 HY
                    cases hE : pres zs x.nm k with
                    | true =>
                      obtain ⟨y, hy⟩ := find_self hE
                      have HF := hide ((find_old hE).1.trans hy)
                      have HO := hide hy
                      have hne := ne_self_att y
                      clear hy hE
                      go_wp2_with fail
                      refine (attribute_any m2 r2 _ x.nm _ wr HM2'.out (by omega)).mono ?_
                      rintro e w11 ⟨he, hb11⟩
                      rw [HF.out] at he
                      obtain rfl : e = .returned (.tuple #[y.att, .bool true]) := he
                      unfold ZA.att
                      have S11 := hide (S10.out.next hb11)
                      have HM1 := hide (HM1'.out.below hb11)
                      have HM2 := hide (HM2'.out.below hb11)
                      clear c0 c1 c2 c3 c4 c5 c6 c7 HM1' HM2' S10 hb11
                      have hbw : Below w11.heap.size w11 (w11.alloc (.cells #[.string y.nm, .int .i64 y.sc, .bool y.li, .string y.de, .bool y.ge, .pointer none, .bool y.un, .string y.pw, .string y.mi] 32)) := (Below.refl _ _).alloc (Nat.le_refl _) _
                      have S12 := hide (S11.out.next hbw)
                      have HM1' := hide (HM1.out.below hbw)
                      have HM2' := hide (HM2.out.below hbw)
                      have HV := hide (At9.mk0 w11 y)
                      obtain ⟨c0, c1, c2, c3, c4, c5, c6, c7⟩ := S11.out.2
                      have hlx := cell_lt c0
                      clear S11 HM1 HM2 hbw
                      go_wp2_with fail
                      generalize w11.alloc (.cells #[.string y.nm, .int .i64 y.sc, .bool y.li, .string y.de, .bool y.ge, .pointer none, .bool y.un, .string y.pw, .string y.mi] 32) = w12 at *
                      clear c0 c1 c2 c3 c4 c5 c6 c7 hlx
                      refine (attribute_any m1 r1 _ x.nm _ w12 HM1'.out (by omega)).mono ?_
                      rintro e w13 ⟨he, hb13⟩
                      rw [HO.out] at he
                      obtain rfl : e = .returned (.tuple #[y.att, .bool true]) := he
                      unfold ZA.att
                      have S13 := hide (S12.out.next hb13)
                      have HM1 := hide (HM1'.out.below hb13)
                      have HM2 := hide (HM2'.out.below hb13)
                      have hV := HV.out.below hb13 (cell_lt HV.out.c0)
                      obtain ⟨d0, d1, d2, d3, d4, d5, d6, d7, d8⟩ := hV
                      have hld := cell_lt d0
                      have hbv : Below w13.heap.size w13 (w13.alloc (.cells #[.string y.nm, .int .i64 y.sc, .bool y.li, .string y.de, .bool y.ge, .pointer none, .bool y.un, .string y.pw, .string y.mi] 32)) := (Below.refl _ _).alloc (Nat.le_refl _) _
                      have S14 := hide (S13.out.next hbv)
                      have HM1' := hide (HM1.out.below hbv)
                      have HM2' := hide (HM2.out.below hbv)
                      obtain ⟨c0, c1, c2, c3, c4, c5, c6, c7⟩ := S13.out.2
                      have hlx := cell_lt c0
                      clear HM1 HM2 hbv hb13 S12 S13
                      cases hqx : (q.toList == x.nm.toList) with
                      | true =>
                        go_wp2_with fail
                        go_ret
                        exact ⟨rfl, S14.out.1⟩
                      | false =>
                        have HFo := hide (find_other (zs := zs) (p := k) (x := x) (q := q) (bne_flip hqx))
                        obtain ⟨y2, f2, hA2⟩ : ∃ z f, Ans (find zs q) z f := ⟨_, _, rfl, rfl⟩
                        have HA2 := hide hA2
                        clear hA2
                        go_wp2_with fail
                        generalize w13.alloc (.cells #[.string y.nm, .int .i64 y.sc, .bool y.li, .string y.de, .bool y.ge, .pointer none, .bool y.un, .string y.pw, .string y.mi] 32) = w14 at *
                        clear c0 c1 c2 c3 c4 c5 c6 c7 d0 d1 d2 d3 d4 d5 d6 d7 d8 hlx hne
                        refine (attribute_any m2 r2 _ q _ w14 HM2'.out (by omega)).mono ?_
                        rintro e w15 ⟨he, hb15⟩
                        rw [HFo.out] at he
                        obtain rfl := HA2.out.ret he
                        clear he
                        unfold ZA.att
                        have S15 := hide (S14.out.next hb15)
                        have HM1 := hide (HM1'.out.below hb15)
                        have hbw : Below w15.heap.size w15 (w15.alloc (.cells #[.string y2.nm, .int .i64 y2.sc, .bool y2.li, .string y2.de, .bool y2.ge, .pointer none, .bool y2.un, .string y2.pw, .string y2.mi] 32)) := (Below.refl _ _).alloc (Nat.le_refl _) _
                        have S16 := hide (S15.out.next hbw)
                        have HM3 := hide (HM1.out.below hbw)
                        have HV2 := hide (At9.mk0 w15 y2)
                        clear S14 S15 HM1 HM1' HM2' hb15 hbw
                        go_wp2_with fail
                        generalize w15.alloc (.cells #[.string y2.nm, .int .i64 y2.sc, .bool y2.li, .string y2.de, .bool y2.ge, .pointer none, .bool y2.un, .string y2.pw, .string y2.mi] 32) = w16 at *
                        refine (attribute_any m1 r1 _ q _ w16 HM3.out (by omega)).mono ?_
                        rintro e w17 ⟨he, hb17⟩
                        obtain rfl := HA2.out.ret he
                        clear he
                        unfold ZA.att
                        have S17 := hide (S16.out.next hb17)
                        obtain ⟨d0, d1, d2, d3, d4, d5, d6, d7, d8⟩ := HV2.out.below hb17 (cell_lt HV2.out.c0)
                        have hld := cell_lt d0
                        have hne := ne_self_att y2
                        clear hb17 S16 HM3 HV2
                        go_wp2_with fail
                        go_ret
                        exact ⟨rfl, (S17.out.next ((Below.refl _ _).alloc (Nat.le_refl _) _)).1⟩
                    | false =>
                      have HF := hide (find_new hE)
                      have hne := ne_self_att x
                      clear hE
                      go_wp2_with fail
                      refine (attribute_any m2 r2 _ x.nm _ wr HM2'.out (by omega)).mono ?_
                      rintro e w11 ⟨he, hb11⟩
                      rw [HF.out] at he
                      obtain rfl : e = .returned (.tuple #[x.att, .bool true]) := he
                      unfold ZA.att
                      have S11 := hide (S10.out.next hb11)
                      have HM1 := hide (HM1'.out.below hb11)
                      have HM2 := hide (HM2'.out.below hb11)
                      clear c0 c1 c2 c3 c4 c5 c6 c7 HM1' HM2' S10 hb11
                      have hbw : Below w11.heap.size w11 (w11.alloc (.cells #[.string x.nm, .int .i64 x.sc, .bool x.li, .string x.de, .bool x.ge, .pointer none, .bool x.un, .string x.pw, .string x.mi] 32)) := (Below.refl _ _).alloc (Nat.le_refl _) _
                      have S12 := hide (S11.out.next hbw)
                      have HM3 := hide (HM1.out.below hbw)
                      have HM4 := hide (HM2.out.below hbw)
                      have HV := hide (At9.mk0 w11 x)
                      clear S11 HM1 HM2 hbw
                      go_wp2_with fail
                      generalize w11.alloc (.cells #[.string x.nm, .int .i64 x.sc, .bool x.li, .string x.de, .bool x.ge, .pointer none, .bool x.un, .string x.pw, .string x.mi] 32) = w12 at *
                      obtain ⟨c0, c1, c2, c3, c4, c5, c6, c7⟩ := S12.out.2
                      obtain ⟨d0, d1, d2, d3, d4, d5, d6, d7, d8⟩ := HV.out
                      have hlx := cell_lt c0
                      go_region_with ((go_at_call 12; refine (toAttr_any x _).mono ?_; rintro e w13 ⟨rfl, hb13⟩; unfold ZA.att; replace hb13 := Below.trans (Below.drew (Below.refl w12.heap.size w12)) (hb13.mono (by simp)); obtain ⟨f0, f1, f2, f3, f4, f5, f6, f7, f8⟩ := HV.out.below hb13 (cell_lt HV.out.c0)))
                      all_goals
                        clear c0 c1 c2 c3 c4 c5 c6 c7
                        have S14 := hide (S12.out.next hb13)
                        have HM1' := hide (HM3.out.below hb13)
                        have HM2' := hide (HM4.out.below hb13)
                        obtain ⟨c0, c1, c2, c3, c4, c5, c6, c7⟩ := S14.out.2
                        cases hqx : (q.toList == x.nm.toList) with
                        | true =>
                          go_wp2_with fail
                          go_ret
                          exact ⟨rfl, S14.out.1⟩
                        | false =>
                          have HFo := hide (find_other (zs := zs) (p := k) (x := x) (q := q) (bne_flip hqx))
                          obtain ⟨y2, f2, hA2⟩ : ∃ z f, Ans (find zs q) z f := ⟨_, _, rfl, rfl⟩
                          have HA2 := hide hA2
                          clear hA2
                          go_wp2_with fail
                          clear c0 c1 c2 c3 c4 c5 c6 c7 d0 d1 d2 d3 d4 d5 d6 d7 d8 hlx hne
                          refine (attribute_any m2 r2 _ q _ w13 HM2'.out (by omega)).mono ?_
                          rintro e w15 ⟨he, hb15⟩
                          rw [HFo.out] at he
                          obtain rfl := HA2.out.ret he
                          clear he
                          unfold ZA.att
                          have S15 := hide (S14.out.next hb15)
                          have HM1 := hide (HM1'.out.below hb15)
                          have hbw : Below w15.heap.size w15 (w15.alloc (.cells #[.string y2.nm, .int .i64 y2.sc, .bool y2.li, .string y2.de, .bool y2.ge, .pointer none, .bool y2.un, .string y2.pw, .string y2.mi] 32)) := (Below.refl _ _).alloc (Nat.le_refl _) _
                          have S16 := hide (S15.out.next hbw)
                          have HM3 := hide (HM1.out.below hbw)
                          have HV2 := hide (At9.mk0 w15 y2)
                          clear S14 S15 HM1 HM1' HM2' hb15 hbw
                          go_wp2_with fail
                          generalize w15.alloc (.cells #[.string y2.nm, .int .i64 y2.sc, .bool y2.li, .string y2.de, .bool y2.ge, .pointer none, .bool y2.un, .string y2.pw, .string y2.mi] 32) = w16 at *
                          refine (attribute_any m1 r1 _ q _ w16 HM3.out (by omega)).mono ?_
                          rintro e w17 ⟨he, hb17⟩
                          obtain rfl := HA2.out.ret he
                          clear he
                          unfold ZA.att
                          have S17 := hide (S16.out.next hb17)
                          obtain ⟨d0, d1, d2, d3, d4, d5, d6, d7, d8⟩ := HV2.out.below hb17 (cell_lt HV2.out.c0)
                          have hld := cell_lt d0
                          have hne := ne_self_att y2
                          clear hb17 S16 HM3 HV2
                          go_wp2_with fail
                          go_ret
                          exact ⟨rfl, (S17.out.next ((Below.refl _ _).alloc (Nat.le_refl _) _)).1⟩
end Go.Proofs.Qxb6003612a.At
