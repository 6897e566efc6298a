import Derived.Test.Qxb6605547aEx5
import Derived.Test.Qxb6605547aEx6
namespace Go.Proofs.Qxb6605547a.Ex
open Go.ChangeShapes Go.WideShapes Go.ChangeAt Go.RowKit

theorem ret_true {a : Bool} (h : a = true) : Ending.returned (.bool a) = .returned (.bool true) := by rw [h]

theorem tail_false (xs : List ByteArray) (f : Nat) (sl : Bool) : tailL xs f false sl = [] := rfl

/-- what the law compares -/
def Fits (sl : Bool) (L1 L2 R : List UInt8) : Prop := (R.isEmpty = true → L1 = L2) ∧ (R.isEmpty = false → sl = true → L1 = L2 ++ R) ∧ (R.isEmpty = false → sl = false → L1 = L2 ++ [47] ++ R)

theorem fits (xs : List ByteArray) (f : Nat) (sl : Bool) (B : List UInt8) : Fits sl (B ++ tailL xs f true sl) (B ++ tailL xs f false sl) (restL xs f) := by
  rw [tail_false]
  unfold tailL
  refine ⟨fun h => ?_, fun h hs => ?_, fun h hs => ?_⟩
  · rw [List.isEmpty_iff] at h
    simp [h]
  · subst hs
    have : restL xs f ≠ [] := by intro e; rw [e] at h; simp at h
    simp [this]
  · subst hs
    have : restL xs f ≠ [] := by intro e; rw [e] at h; simp at h
    simp [this]

set_option maxHeartbeats 4000000 in
theorem walk (a0 a1 a4 a5 : Option Addr) (n0 n1 n4 n5 c0 c1 c4 c5 : Nat) (fr : Int) (sl : Bool) (xs0 xs4 xs5 : List ByteArray) (zs : List Int) (w : World)
    (h0 : Strs w a0 xs0) (e0 : xs0.length = n0) (l0 : n0 ≤ maxLen) (h1 : Ints w a1 zs) (e1 : zs.length = n1) (l1 : n1 ≤ maxLen) (h4 : Strs w a4 xs4) (e4 : xs4.length = n4) (l4 : n4 ≤ maxLen) (h5 : Strs w a5 xs5) (e5 : xs5.length = n5) (l5 : n5 ≤ maxLen)
    (z0 : ∀ x ∈ xs0, x.size ≤ maxLen) (z4 : ∀ x ∈ xs4, x.size ≤ maxLen) (z5 : ∀ x ∈ xs5, x.size ≤ maxLen) :
    Calls Try.prog 6 #[.slice a0 n0 c0, .slice a1 n1 c1, .int .i64 fr, .bool sl, .slice a4 n4 c4, .slice a5 n5 c5] w fun e w' => e = .returned (.bool true) ∧ Below w.heap.size w w' := by
  have H0 := hide h0
  have H1 := hide h1
  have H4 := hide h4
  have H5 := hide h5
  have E0 := hide e0
  have E1 := hide e1
  have E4 := hide e4
  have E5 := hide e5
  have Hz := hide (zzBytes_any a0 a1 a4 a5 n0 n1 n4 n5 c0 c1 c4 c5 fr sl xs0 xs4 xs5 w h0 e0 l0 l1 h4 e4 l4 h5 e5 l5 z0 z4 z5)
  clear h0 h1 h4 h5 e0 e1 e4 e5 z0 z4 z5
  unfold maxLen at l0 l1 l4 l5
  go_enter Try.func6, Try.ntmps6
  go_wp2_with fail
  refine Hz.out.mono ?_
  rintro e w1 ⟨⟨b, hb, rfl⟩, rfl⟩
  clear Hz
  cases b with
  | false =>
    clear hb
    go_wp2_with fail
    go_ret
    exact ⟨rfl, Below.refl _ _⟩
  | true =>
    have hT := hb rfl
    clear hb
    by_cases g0 : (65536 : Int) < n0
    · go_wp2_with fail
      go_ret
      exact ⟨rfl, Below.refl _ _⟩
    by_cases g1 : (65536 : Int) < n1
    · go_wp2_with fail
      go_ret
      exact ⟨rfl, Below.refl _ _⟩
    by_cases g4 : (65536 : Int) < n4
    · go_wp2_with fail
      go_ret
      exact ⟨rfl, Below.refl _ _⟩
    by_cases g5 : (65536 : Int) < n5
    · go_wp2_with fail
      go_ret
      exact ⟨rfl, Below.refl _ _⟩
    have t0 : tot xs0 ≤ 1048576 := by omega
    have t4 : tot xs4 ≤ 1048576 := by omega
    have t5 : tot xs5 ≤ 1048576 := by omega
    have m0 : n0 ≤ 1048576 := by omega
    have m1 : n1 ≤ 1048576 := by omega
    have m4 : n4 ≤ 1048576 := by omega
    have m5 : n5 ≤ 1048576 := by omega
    clear hT l0 l1 l4 l5
    go_wp2_with fail
    refine (bytesFit_any a0 a1 a4 a5 n0 n1 n4 n5 c0 c1 c4 c5 xs0 xs4 xs5 w1 H0.out E0.out H4.out E4.out H5.out E5.out m0 m1 m4 m5 t0 t4 t5).mono ?_
    rintro e w2 ⟨⟨b, _, rfl⟩, rfl⟩
    cases b with
    | false =>
      go_wp2_with fail
      go_ret
      exact ⟨rfl, Below.refl _ _⟩
    | true =>
      go_wp2_with fail
      refine (domain_any a0 a1 a4 n0 n1 n4 c0 c1 c4 fr xs0 xs4 zs w2 H0.out E0.out H1.out E1.out H4.out E4.out m0 m1 m4 t0 t4).mono ?_
      rintro e w3 ⟨⟨b, hb, rfl⟩, rfl⟩
      cases b with
      | false =>
        clear hb
        go_wp2_with fail
        go_ret
        exact ⟨rfl, Below.refl _ _⟩
      | true =>
        obtain ⟨hn, hf0, hf1, hok⟩ := hb rfl
        subst hn
        obtain ⟨f, rfl⟩ := Int.eq_ofNat_of_zero_le hf0
        have Hok := hide hok
        have hf : f ≤ n4 := by omega
        clear hb hok hf0 hf1
        go_wp2_with fail
        refine (cloneStrings_any a0 n0 c0 xs0 w3 H0.out E0.out m0).mono ?_
        rintro e w4 ⟨⟨b0, d0, rfl, _, hS0⟩, hb4⟩
        have K0 := hide hS0
        have K1 := hide (H1.out.below hb4)
        have K4 := hide (H4.out.below hb4)
        have K5 := hide (H5.out.below hb4)
        have B4 := hide hb4
        clear hS0 hb4 H0 H1 H4 H5
        go_wp2_with fail
        refine (cloneInts_any a1 n0 c1 zs w4 K1.out E1.out m0).mono ?_
        rintro e w5 ⟨⟨b1, d1, rfl, _, hS1⟩, hb5⟩
        have J0 := hide (K0.out.below hb5)
        have J1 := hide hS1
        have J4 := hide (K4.out.below hb5)
        have J5 := hide (K5.out.below hb5)
        have B5 := hide (B4.out.trans (hb5.mono B4.out.size))
        clear hS1 hb5 K0 K1 K4 K5 B4
        go_wp2_with fail
        refine (cloneStrings_any a4 n4 c4 xs4 w5 J4.out E4.out m4).mono ?_
        rintro e w6 ⟨⟨b4, d4, rfl, hd4, hS4⟩, hb6⟩
        have K0 := hide (J0.out.below hb6)
        have K1 := hide (J1.out.below hb6)
        have K4 := hide hS4
        have K5 := hide (J5.out.below hb6)
        have B6 := hide (B5.out.trans (hb6.mono B5.out.size))
        clear hS4 hb6 J0 J1 J4 J5 B5
        go_wp2_with fail
        refine (cloneStrings_any a5 n5 c5 xs5 w6 K5.out E5.out m5).mono ?_
        rintro e w7 ⟨⟨b5, d5, rfl, _, hS5⟩, hb7⟩
        have J0 := hide (K0.out.below hb7)
        have J1 := hide (K1.out.below hb7)
        have J4 := hide (K4.out.below hb7)
        have B7 := hide (B6.out.trans (hb7.mono B6.out.size))
        clear hS5 hb7 K0 K1 K4 K5 B6
        go_wp2_with fail
        refine (zzExpand_any b0 b1 b4 b5 n0 d0 d1 n4 d4 n5 d5 f true sl xs0 xs4 zs w7 J0.out E0.out J1.out E1.out J4.out E4.out hd4 m0 m4 t0 t4 hf Hok.out).mono ?_
        rintro e w8 ⟨rfl, hb8⟩
        have K0 := hide (J0.out.below hb8)
        have K1 := hide (J1.out.below hb8)
        have K4 := hide (J4.out.below hb8)
        have B8 := hide (B7.out.trans (hb8.mono B7.out.size))
        clear hb8 J0 J1 J4 B7
        have Hf := hide (fits xs4 f sl (body xs4 f (xs0.zip zs)))
        have hLen : (body xs4 f (xs0.zip zs) ++ tailL xs4 f false sl).length ≤ n0 * 2097152 := by
          rw [tail_false, List.append_nil]
          have h1 := body_len xs4 f (xs0.zip zs) (fun k p hp => piece_len xs4 f n4 p E4.out m4 t4 (zip_size t0 k p hp)) n0
          rw [List.take_of_length_le (by rw [List.length_zip, E0.out]; omega)] at h1
          exact h1
        have hRl : (restL xs4 f).length ≤ 2097152 := by have := restL_length xs4 f; rw [E4.out] at this; omega
        generalize hL1 : body xs4 f (xs0.zip zs) ++ tailL xs4 f true sl = L1 at *
        clear hL1
        go_wp2_with fail
        refine (zzExpand_any b0 b1 b4 b5 n0 d0 d1 n4 d4 n5 d5 f false sl xs0 xs4 zs w8 K0.out E0.out K1.out E1.out K4.out E4.out hd4 m0 m4 t0 t4 hf Hok.out).mono ?_
        rintro e w9 ⟨rfl, hb9⟩
        have J4 := hide (K4.out.below hb9)
        have B9 := hide (B8.out.trans (hb9.mono B8.out.size))
        clear hb9 K0 K1 K4 B8
        generalize hL2 : body xs4 f (xs0.zip zs) ++ tailL xs4 f false sl = L2 at *
        clear hL2
        go_wp2_with fail
        refine (restOf_any b4 n4 d4 f xs4 w9 J4.out E4.out m4 t4 hf).mono ?_
        rintro e w10 ⟨rfl, hb10⟩
        have B10 := hide (B9.out.trans (hb10.mono B9.out.size))
        clear hb10 J4 B9
        generalize restL xs4 f = R at *
        by_cases hR : R.isEmpty = true
        · have Hq := hide (Hf.out.1 hR)
          clear Hf
          go_wp2_with fail
          go_ret
          exact ⟨ret_true (by rw [Hq.out]; simp), B10.out⟩
        · have hR' : R.isEmpty = false := by simpa using hR
          have z1 : (⟨L2.toArray⟩ : ByteArray).size ≤ 274877906944 := by show L2.toArray.size ≤ _; rw [List.size_toArray]; omega
          have z2 : (⟨R.toArray⟩ : ByteArray).size ≤ 2097152 := by show R.toArray.size ≤ _; rw [List.size_toArray]; omega
          cases sl with
          | true =>
            have Hq := hide (Hf.out.2.1 hR' rfl)
            clear Hf hR
            go_wp2_with fail
            go_ret
            exact ⟨ret_true (by rw [Hq.out]; simp [ByteArray.toList_eq]), B10.out⟩
          | false =>
            have Hq := hide (Hf.out.2.2 hR' rfl)
            clear Hf hR
            go_wp2_with fail
            go_ret
            exact ⟨ret_true (by rw [Hq.out]; simp [ByteArray.toList_eq]), B10.out⟩
end Go.Proofs.Qxb6605547a.Ex
