import Derived.Test.Qxb6003612aRev
import Derived.Test.Qxb6003612aEnds
import Derived.ChangeOld
import Derived.Below
namespace Go.Proofs.Qxb6003612a.Rev
open Go.ChangeShapes Go.WideShapes Go.ChangeAt Go.RowKit

theorem ret_bool {a : Bool} (h : a = true) : Ending.returned (.bool a) = .returned (.bool true) := by rw [h]

/-- the law's guards on the lengths and on keysIn let these by -/
structure Small (a0 a1 a4 a5 a6 a7 : ByteArray) (a9 : Int) : Prop where
  g0 : (a0.size : Int) ≤ 65536
  g1 : (a1.size : Int) ≤ 65536
  g4 : (a4.size : Int) ≤ 65536
  g5 : (a5.size : Int) ≤ 65536
  g6 : (a6.size : Int) ≤ 65536
  g7 : (a7.size : Int) ≤ 65536
  g8 : 0 ≤ a9
  g9 : a9 ≤ 3

theorem Small.max {a : ByteArray} (h : (a.size : Int) ≤ 65536) : a.size ≤ maxLen := by unfold maxLen; omega

theorem rtyp_rtyp (t : Int) : rtyp (rtyp t) = t := by
  unfold rtyp
  by_cases h3 : t = 3
  · subst h3; rfl
  · by_cases h2 : t = 2
    · subst h2; rfl
    · simp [h3, h2]
theorem rkeys_rkeys (k : Int) : rkeys (rkeys k) = k := by
  unfold rkeys
  by_cases h1 : k = 1
  · subst h1; rfl
  · by_cases h2 : k = 2
    · subst h2; rfl
    · simp [h1, h2]
theorem rkeys_ne (k : Int) (h3 : ¬ k = 3) (h4 : ¬ k = 4) : ¬ rkeys k = 3 ∧ ¬ rkeys k = 4 := by
  unfold rkeys
  by_cases h1 : k = 1
  · subst h1; decide
  · by_cases h2 : k = 2
    · subst h2; decide
    · simp [h1, h2, h3, h4]
theorem rkin_rkin (k : Int) (kin t s : Option Addr) (h3 : ¬ k = 3) (h4 : ¬ k = 4) : rkin (rkeys k) (rkin k kin t) s = kin := by
  unfold rkin
  rw [if_neg (rkeys_ne k h3 h4).2, if_neg h4]
theorem rtk_rtk (k : Int) (a b : ByteArray) (h3 : ¬ k = 3) (h4 : ¬ k = 4) : rtk (rkeys k) (rtk k a b) (rsk k a) = a := by
  unfold rtk
  rw [if_neg (rkeys_ne k h3 h4).1, if_neg (rkeys_ne k h3 h4).2, if_neg h3, if_neg h4]
theorem rsk_rsk (k : Int) (a : ByteArray) (h3 : ¬ k = 3) (h4 : ¬ k = 4) : rsk (rkeys k) a = ⟨#[]⟩ := by
  unfold rsk
  rw [if_neg (rkeys_ne k h3 h4).1, if_neg (rkeys_ne k h3 h4).2]


set_option maxRecDepth 100000 in
set_option maxHeartbeats 8000000 in
theorem early (a0 : ByteArray) (a1 : ByteArray) (a2 : Int) (a3 : Int) (a4 : ByteArray) (a5 : ByteArray) (a6 : ByteArray) (a7 : ByteArray) (a8 : Bool) (a9 : Int) (w0 : a0.size ≤ maxLen) (w1 : a1.size ≤ maxLen) (w4 : a4.size ≤ maxLen) (w5 : a5.size ≤ maxLen) (w6 : a6.size ≤ maxLen) (w7 : a7.size ≤ maxLen) (w : World)
    (hS : ¬ Small a0 a1 a4 a5 a6 a7 a9) :
    Calls Try.prog 5 #[.string a0, .string a1, .int .i64 a2, .int .i64 a3, .string a4, .string a5, .string a6, .string a7, .bool a8, .int .i64 a9] w fun e w' => e = .returned (.bool true) ∧ Below w.heap.size w w' := by
  have HS := hide hS
  clear hS
  have Hz := hide (bytes16_any a0 a1 a2 a3 a4 a5 a6 a7 a8 a9 w w0 w1 w4 w5 w6 w7)
  unfold maxLen at w0 w1 w4 w5 w6 w7
  go_enter Try.func5, Try.ntmps5
  go_wp2_with fail
  refine Hz.out.mono ?_
  rintro e w1 ⟨⟨b, rfl⟩, rfl⟩
  clear Hz
  cases b with
  | false =>
    go_wp2_with fail
    go_ret
    exact ⟨rfl, Below.refl _ _⟩
  | true =>
    by_cases g0 : (65536 : Int) < a0.size
    · go_wp2_with fail
      go_ret
      exact ⟨rfl, Below.refl _ _⟩
    by_cases g1 : (65536 : Int) < a1.size
    · go_wp2_with fail
      go_ret
      exact ⟨rfl, Below.refl _ _⟩
    by_cases g4 : (65536 : Int) < a4.size
    · go_wp2_with fail
      go_ret
      exact ⟨rfl, Below.refl _ _⟩
    by_cases g5 : (65536 : Int) < a5.size
    · go_wp2_with fail
      go_ret
      exact ⟨rfl, Below.refl _ _⟩
    by_cases g6 : (65536 : Int) < a6.size
    · go_wp2_with fail
      go_ret
      exact ⟨rfl, Below.refl _ _⟩
    by_cases g7 : (65536 : Int) < a7.size
    · go_wp2_with fail
      go_ret
      exact ⟨rfl, Below.refl _ _⟩
    by_cases g8 : a9 < 0
    · go_wp2_with fail
      go_ret
      exact ⟨rfl, Below.refl _ _⟩
    by_cases g9 : 3 < a9
    · go_wp2_with fail
      go_ret
      exact ⟨rfl, Below.refl _ _⟩
    exact absurd ⟨by omega, by omega, by omega, by omega, by omega, by omega, by omega, by omega⟩ HS.out
end Go.Proofs.Qxb6003612a.Rev
