import Derived.Test.Qxb6003612aRt
namespace Go.Proofs.Qxb6003612a.Rev
open Go.ChangeShapes Go.WideShapes Go.ChangeAt Go.RowKit

set_option maxRecDepth 100000 in
set_option maxHeartbeats 8000000 in
theorem walk3a (a0 : ByteArray) (a1 : ByteArray) (a2 : Int) (a4 : ByteArray) (a5 : ByteArray) (a6 : ByteArray) (a7 : ByteArray) (a8 : Bool) (a9 : Int) (w : World) (hS : Small a0 a1 a4 a5 a6 a7 a9) (he : (a5.toList == []) = true) :
    Calls Try.prog 5 #[.string a0, .string a1, .int .i64 a2, .int .i64 3, .string a4, .string a5, .string a6, .string a7, .bool a8, .int .i64 a9] w fun e w' => e = .returned (.bool true) ∧ Below w.heap.size w w' := by
  obtain ⟨g0, g1, g4, g5, g6, g7, g8, g9⟩ := hS
  have Hz := hide (bytes16_any a0 a1 a2 3 a4 a5 a6 a7 a8 a9 w (Small.max g0) (Small.max g1) (Small.max g4) (Small.max g5) (Small.max g6) (Small.max g7))
  have pe := eql_same
  have pn := neq_same
  go_enter Try.func5, Try.ntmps5
  go_wp2_with fail
  refine Hz.out.mono ?_
  rintro e w1 ⟨⟨b, rfl⟩, rfl⟩
  clear Hz
  cases b with
  | false =>
    go_wp2_with fail
    go_ret
    exact ⟨rfl, Below.refl _ _⟩
  | true =>
    go_wp2_with fail
    refine (ends_any a8 a9 w1).mono ?_
    rintro e w2 ⟨⟨s, t, kin, rfl, hks⟩, hb2⟩
    clear hks
    have E4 : Hid (rkin (rkeys 3) (rkin 3 kin (some t)) (some s) = kin) := rfl
    have E1 := hide (rtyp_rtyp a2)
    have E2 : Hid (rkeys (rkeys 3) = 3) := rfl
    have E5 : Hid (rtk (rkeys 3) (rtk 3 a4 a5) (rsk 3 a4) = a4) := rfl
    have E6 : Hid (rsk (rkeys 3) (rtk 3 a4 a5) = a5) := rfl
    go_wp2_with fail
    have hA := assoc_mk w2 a0 a2 (some s) (some t) 3 kin a4 a5 a1 a6 a7 ⟨#[]⟩ ⟨#[]⟩ ⟨#[]⟩
    have hb3 : Below w1.heap.size w1 (w2.alloc (.cells #[.string a0, .int .i64 a2, .pointer (some s), .pointer (some t), .int .i64 3, .pointer kin, .string a4, .string a5, .string a1, .string a6, .string a7, .string ⟨#[]⟩, .string ⟨#[]⟩, .string ⟨#[]⟩] 48)) := hb2.alloc hb2.size _
    generalize w2.alloc (.cells #[.string a0, .int .i64 a2, .pointer (some s), .pointer (some t), .int .i64 3, .pointer kin, .string a4, .string a5, .string a1, .string a6, .string a7, .string ⟨#[]⟩, .string ⟨#[]⟩, .string ⟨#[]⟩] 48) = W3 at *
    clear hb2
    generalize w2.heap.size = g at *
    refine (reversed_any g a0 a2 (some s) (some t) 3 kin a4 a5 a1 a6 a7 W3 hA).mono ?_
    rintro e w4 ⟨rfl, hA4, hb4⟩
    have HA4 := hide hA4
    obtain ⟨d0, d1, d2, d3, d4, d5, d6, d7, d8, d9, d10⟩ := hA4
    have B4 := hide (hb3.trans (hb4.mono hb3.size))
    clear hA hb3 hb4
    generalize W3.heap.size = g4 at *
    go_wp2_with fail
    clear d0 d1 d2 d3 d4 d5 d6 d7 d8 d9 d10
    refine (reversed_any g4 a1 (rtyp a2) (some t) (some s) (rkeys 3) (rkin 3 kin (some t)) (rtk 3 a4 a5) (rsk 3 a4) a0 ⟨#[]⟩ ⟨#[]⟩ w4 HA4.out).mono ?_
    rintro e w5 ⟨rfl, hA5, hb5⟩
    rw [E1.out, E2.out, E4.out, E5.out, E6.out] at hA5
    have B5 := hide (B4.out.trans (hb5.mono B4.out.size))
    clear hb5 HA4 B4 E1 E2 E4 E5 E6
    obtain ⟨d0, d1, d2, d3, d4, d5, d6, d7, d8, d9, d10⟩ := hA5
    generalize w4.heap.size = g5 at *
    go_wp2_with fail
    go_ret
    exact ⟨ret_bool (by simp), B5.out⟩

set_option maxRecDepth 100000 in
set_option maxHeartbeats 8000000 in
theorem walk3b (a0 : ByteArray) (a1 : ByteArray) (a2 : Int) (a4 : ByteArray) (a5 : ByteArray) (a6 : ByteArray) (a7 : ByteArray) (a8 : Bool) (a9 : Int) (w : World) (hS : Small a0 a1 a4 a5 a6 a7 a9) (he : (a5.toList == []) = false) :
    Calls Try.prog 5 #[.string a0, .string a1, .int .i64 a2, .int .i64 3, .string a4, .string a5, .string a6, .string a7, .bool a8, .int .i64 a9] w fun e w' => e = .returned (.bool true) ∧ Below w.heap.size w w' := by
  obtain ⟨g0, g1, g4, g5, g6, g7, g8, g9⟩ := hS
  have Hz := hide (bytes16_any a0 a1 a2 3 a4 a5 a6 a7 a8 a9 w (Small.max g0) (Small.max g1) (Small.max g4) (Small.max g5) (Small.max g6) (Small.max g7))
  have pe := eql_same
  have pn := neq_same
  go_enter Try.func5, Try.ntmps5
  go_wp2_with fail
  refine Hz.out.mono ?_
  rintro e w1 ⟨⟨b, rfl⟩, rfl⟩
  clear Hz
  cases b with
  | false =>
    go_wp2_with fail
    go_ret
    exact ⟨rfl, Below.refl _ _⟩
  | true =>
    go_wp2_with fail
    refine (ends_any a8 a9 w1).mono ?_
    rintro e w2 ⟨⟨s, t, kin, rfl, hks⟩, hb2⟩
    clear hks
    have E4 : Hid (rkin (rkeys 3) (rkin 3 kin (some t)) (some s) = kin) := rfl
    have E1 := hide (rtyp_rtyp a2)
    have E2 : Hid (rkeys (rkeys 3) = 3) := rfl
    have E5 : Hid (rtk (rkeys 3) (rtk 3 a4 a5) (rsk 3 a4) = a4) := rfl
    have E6 : Hid (rsk (rkeys 3) (rtk 3 a4 a5) = a5) := rfl
    go_wp2_with fail
    have hA := assoc_mk w2 a0 a2 (some s) (some t) 3 kin a4 a5 a1 a6 a7 ⟨#[]⟩ ⟨#[]⟩ ⟨#[]⟩
    have hb3 : Below w1.heap.size w1 (w2.alloc (.cells #[.string a0, .int .i64 a2, .pointer (some s), .pointer (some t), .int .i64 3, .pointer kin, .string a4, .string a5, .string a1, .string a6, .string a7, .string ⟨#[]⟩, .string ⟨#[]⟩, .string ⟨#[]⟩] 48)) := hb2.alloc hb2.size _
    generalize w2.alloc (.cells #[.string a0, .int .i64 a2, .pointer (some s), .pointer (some t), .int .i64 3, .pointer kin, .string a4, .string a5, .string a1, .string a6, .string a7, .string ⟨#[]⟩, .string ⟨#[]⟩, .string ⟨#[]⟩] 48) = W3 at *
    clear hb2
    generalize w2.heap.size = g at *
    refine (reversed_any g a0 a2 (some s) (some t) 3 kin a4 a5 a1 a6 a7 W3 hA).mono ?_
    rintro e w4 ⟨rfl, hA4, hb4⟩
    have HA4 := hide hA4
    obtain ⟨d0, d1, d2, d3, d4, d5, d6, d7, d8, d9, d10⟩ := hA4
    have B4 := hide (hb3.trans (hb4.mono hb3.size))
    clear hA hb3 hb4
    generalize W3.heap.size = g4 at *
    go_wp2_with fail
    clear d0 d1 d2 d3 d4 d5 d6 d7 d8 d9 d10
    refine (reversed_any g4 a1 (rtyp a2) (some t) (some s) (rkeys 3) (rkin 3 kin (some t)) (rtk 3 a4 a5) (rsk 3 a4) a0 ⟨#[]⟩ ⟨#[]⟩ w4 HA4.out).mono ?_
    rintro e w5 ⟨rfl, hA5, hb5⟩
    rw [E1.out, E2.out, E4.out, E5.out, E6.out] at hA5
    have B5 := hide (B4.out.trans (hb5.mono B4.out.size))
    clear hb5 HA4 B4 E1 E2 E4 E5 E6
    obtain ⟨d0, d1, d2, d3, d4, d5, d6, d7, d8, d9, d10⟩ := hA5
    generalize w4.heap.size = g5 at *
    go_wp2_with fail
    go_ret
    exact ⟨ret_bool (by simp), B5.out⟩
end Go.Proofs.Qxb6003612a.Rev
