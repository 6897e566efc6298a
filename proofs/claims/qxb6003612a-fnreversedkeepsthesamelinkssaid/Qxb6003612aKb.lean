import Derived.Test.Qxb6003612aKa
namespace Go.Proofs.Qxb6003612a.Rev
open Go.ChangeShapes Go.WideShapes Go.ChangeAt Go.RowKit

theorem Assoc.drewN {w : World} {b : Nat} {name : ByteArray} {typ : Int} {src tgt : Option Addr} {keys : Int} {kin : Option Addr} {tk sk rev lab sub : ByteArray}
    (h : Assoc w b name typ src tgt keys kin tk sk rev lab sub) (n : Nat) : Assoc (w.drewN n) b name typ src tgt keys kin tk sk rev lab sub := by
  obtain ⟨c0, c1, c2, c3, c4, c5, c6, c7, c8, c9, c10⟩ := h
  exact ⟨by simpa using c0, by simpa using c1, by simpa using c2, by simpa using c3, by simpa using c4, by simpa using c5, by simpa using c6, by simpa using c7, by simpa using c8, by simpa using c9, by simpa using c10⟩

/-- the law's guards let these by -/
structure Small2 (a0 a1 a4 a5 : ByteArray) (a2 a9 : Int) : Prop where
  g0 : (a0.size : Int) ≤ 65536
  g1 : (a1.size : Int) ≤ 65536
  g4 : (a4.size : Int) ≤ 65536
  g5 : (a5.size : Int) ≤ 65536
  gt0 : 1 ≤ a2
  gt1 : a2 ≤ 4
  g8 : 0 ≤ a9
  g9 : a9 ≤ 3

set_option maxRecDepth 100000 in
set_option maxHeartbeats 8000000 in
theorem keep1 (a0 a1 : ByteArray) (a2 : Int) (a4 a5 : ByteArray) (a8 : Bool) (a9 : Int) (w : World) (hS : Small2 a0 a1 a4 a5 a2 a9) :
    Calls Try.prog 6 #[.string a0, .string a1, .int .i64 a2, .int .i64 1, .string a4, .string a5, .bool a8, .int .i64 a9] w fun e w' => e = .returned (.bool true) ∧ Below w.heap.size w w' := by
  obtain ⟨g0, g1, g4, g5, gt0, gt1, g8, g9⟩ := hS
  have Hz := hide (bytes19_any a0 a1 a2 1 a4 a5 a8 a9 w (by unfold maxLen; omega) (by unfold maxLen; omega) (by unfold maxLen; omega) (by unfold maxLen; omega))
  obtain ⟨hM1, hM2, hr1, hr4⟩ := many1 a2 gt0 gt1
  have pn := neq_same
  go_enter Try.func6, Try.ntmps6
  go_wp2_with fail
  refine Hz.out.mono ?_
  rintro e w1 ⟨⟨b, rfl⟩, rfl⟩
  clear Hz
  cases b with
  | false =>
    go_wp2_with fail
    go_ret
    exact ⟨rfl, Below.refl _ _⟩
  | true =>
    go_wp2_with fail
    refine (ends_any a8 a9 w1).mono ?_
    rintro e w2 ⟨⟨s, t, kin, rfl, hks⟩, hb2⟩
    clear hks
    go_wp2_with fail
    have hA := assoc_mk w2 a0 a2 (some s) (some t) 1 kin a4 a5 a1 ⟨#[]⟩ ⟨#[]⟩ ⟨#[]⟩ ⟨#[]⟩ ⟨#[]⟩
    have hb3 : Below w1.heap.size w1 (w2.alloc (.cells #[.string a0, .int .i64 a2, .pointer (some s), .pointer (some t), .int .i64 1, .pointer kin, .string a4, .string a5, .string a1, .string ⟨#[]⟩, .string ⟨#[]⟩, .string ⟨#[]⟩, .string ⟨#[]⟩, .string ⟨#[]⟩] 48)) := hb2.alloc hb2.size _
    generalize w2.alloc (.cells #[.string a0, .int .i64 a2, .pointer (some s), .pointer (some t), .int .i64 1, .pointer kin, .string a4, .string a5, .string a1, .string ⟨#[]⟩, .string ⟨#[]⟩, .string ⟨#[]⟩, .string ⟨#[]⟩, .string ⟨#[]⟩] 48) = W3 at *
    clear hb2
    generalize w2.heap.size = g at *
    refine (reversed_any g a0 a2 (some s) (some t) 1 kin a4 a5 a1 ⟨#[]⟩ ⟨#[]⟩ W3 hA).mono ?_
    rintro e w4 ⟨rfl, hA4, hb4⟩
    replace hA4 : Assoc w4 W3.heap.size a1 (rtyp a2) (some t) (some s) 2 kin a4 ⟨#[]⟩ a0 ⟨#[]⟩ ⟨#[]⟩ := hA4
    have hA3 := hA.below hb4
    have HA3 := hide hA3
    have HA4 := hide hA4
    have B4 := hide (hb3.trans (hb4.mono hb3.size))
    obtain ⟨c0, c1, c2, c3, c4, c5, c6, c7, c8, c9, c10⟩ := hA3
    obtain ⟨d0, d1, d2, d3, d4, d5, d6, d7, d8, d9, d10⟩ := hA4
    clear hA hb3 hb4 c0 c2 c3 c5 c6 c7 c8 c9 c10 d0 d6 d7 d8 d9 d10
    generalize W3.heap.size = g4 at *
    go_wp2_with fail
    go_quiet ((first | (go_at_call 20; exact Calls.quiet_of_same (manyS_any _ _)) | (go_at_call 21; exact Calls.quiet_of_same (manyT_any _ _))))
    go_wp2_with fail
    refine (src2 g4 a1 (rtyp a2) (some t) (some s) kin a4 ⟨#[]⟩ a0 ⟨#[]⟩ ⟨#[]⟩ _ (HA4.out.drewN _)).mono ?_
    rintro e w5 ⟨rfl, n5, rfl⟩
    go_wp2_with fail
    refine (tgt1 g a0 a2 (some s) (some t) kin a4 a5 a1 ⟨#[]⟩ ⟨#[]⟩ _ (HA3.out.drewN _)).mono ?_
    rintro e w6 ⟨rfl, n6, rfl⟩
    go_wp2_with fail
    refine (tgt2 g4 a1 (rtyp a2) (some t) (some s) kin a4 ⟨#[]⟩ a0 ⟨#[]⟩ ⟨#[]⟩ _ (HA4.out.drewN _)).mono ?_
    rintro e w7 ⟨rfl, n7, rfl⟩
    go_wp2_with fail
    refine (src1 g a0 a2 (some s) (some t) kin a4 a5 a1 ⟨#[]⟩ ⟨#[]⟩ _ (HA3.out.drewN _)).mono ?_
    rintro e w8 ⟨rfl, n8, rfl⟩
    go_wp2_with fail
    go_quiet (fail)
    go_wp2_with fail
    go_quiet (fail)
    go_wp2_with fail
    go_ret
    exact ⟨rfl, below_drewN (below_drewN (below_drewN B4.out _) _) _⟩

set_option maxRecDepth 100000 in
set_option maxHeartbeats 8000000 in
theorem keep2 (a0 a1 : ByteArray) (a2 : Int) (a4 a5 : ByteArray) (a8 : Bool) (a9 : Int) (w : World) (hS : Small2 a0 a1 a4 a5 a2 a9) :
    Calls Try.prog 6 #[.string a0, .string a1, .int .i64 a2, .int .i64 2, .string a4, .string a5, .bool a8, .int .i64 a9] w fun e w' => e = .returned (.bool true) ∧ Below w.heap.size w w' := by
  obtain ⟨g0, g1, g4, g5, gt0, gt1, g8, g9⟩ := hS
  have Hz := hide (bytes19_any a0 a1 a2 2 a4 a5 a8 a9 w (by unfold maxLen; omega) (by unfold maxLen; omega) (by unfold maxLen; omega) (by unfold maxLen; omega))
  obtain ⟨hM1, hM2, hr1, hr4⟩ := many1 a2 gt0 gt1
  have pn := neq_same
  go_enter Try.func6, Try.ntmps6
  go_wp2_with fail
  refine Hz.out.mono ?_
  rintro e w1 ⟨⟨b, rfl⟩, rfl⟩
  clear Hz
  cases b with
  | false =>
    go_wp2_with fail
    go_ret
    exact ⟨rfl, Below.refl _ _⟩
  | true =>
    go_wp2_with fail
    refine (ends_any a8 a9 w1).mono ?_
    rintro e w2 ⟨⟨s, t, kin, rfl, hks⟩, hb2⟩
    clear hks
    go_wp2_with fail
    have hA := assoc_mk w2 a0 a2 (some s) (some t) 2 kin a4 a5 a1 ⟨#[]⟩ ⟨#[]⟩ ⟨#[]⟩ ⟨#[]⟩ ⟨#[]⟩
    have hb3 : Below w1.heap.size w1 (w2.alloc (.cells #[.string a0, .int .i64 a2, .pointer (some s), .pointer (some t), .int .i64 2, .pointer kin, .string a4, .string a5, .string a1, .string ⟨#[]⟩, .string ⟨#[]⟩, .string ⟨#[]⟩, .string ⟨#[]⟩, .string ⟨#[]⟩] 48)) := hb2.alloc hb2.size _
    generalize w2.alloc (.cells #[.string a0, .int .i64 a2, .pointer (some s), .pointer (some t), .int .i64 2, .pointer kin, .string a4, .string a5, .string a1, .string ⟨#[]⟩, .string ⟨#[]⟩, .string ⟨#[]⟩, .string ⟨#[]⟩, .string ⟨#[]⟩] 48) = W3 at *
    clear hb2
    generalize w2.heap.size = g at *
    refine (reversed_any g a0 a2 (some s) (some t) 2 kin a4 a5 a1 ⟨#[]⟩ ⟨#[]⟩ W3 hA).mono ?_
    rintro e w4 ⟨rfl, hA4, hb4⟩
    replace hA4 : Assoc w4 W3.heap.size a1 (rtyp a2) (some t) (some s) 1 kin a4 ⟨#[]⟩ a0 ⟨#[]⟩ ⟨#[]⟩ := hA4
    have hA3 := hA.below hb4
    have HA3 := hide hA3
    have HA4 := hide hA4
    have B4 := hide (hb3.trans (hb4.mono hb3.size))
    obtain ⟨c0, c1, c2, c3, c4, c5, c6, c7, c8, c9, c10⟩ := hA3
    obtain ⟨d0, d1, d2, d3, d4, d5, d6, d7, d8, d9, d10⟩ := hA4
    clear hA hb3 hb4 c0 c2 c3 c5 c6 c7 c8 c9 c10 d0 d6 d7 d8 d9 d10
    generalize W3.heap.size = g4 at *
    go_wp2_with fail
    go_quiet ((first | (go_at_call 20; exact Calls.quiet_of_same (manyS_any _ _)) | (go_at_call 21; exact Calls.quiet_of_same (manyT_any _ _))))
    go_wp2_with fail
    refine (src1 g4 a1 (rtyp a2) (some t) (some s) kin a4 ⟨#[]⟩ a0 ⟨#[]⟩ ⟨#[]⟩ _ (HA4.out.drewN _)).mono ?_
    rintro e w5 ⟨rfl, n5, rfl⟩
    go_wp2_with fail
    refine (tgt2 g a0 a2 (some s) (some t) kin a4 a5 a1 ⟨#[]⟩ ⟨#[]⟩ _ (HA3.out.drewN _)).mono ?_
    rintro e w6 ⟨rfl, n6, rfl⟩
    go_wp2_with fail
    refine (tgt1 g4 a1 (rtyp a2) (some t) (some s) kin a4 ⟨#[]⟩ a0 ⟨#[]⟩ ⟨#[]⟩ _ (HA4.out.drewN _)).mono ?_
    rintro e w7 ⟨rfl, n7, rfl⟩
    go_wp2_with fail
    refine (src2 g a0 a2 (some s) (some t) kin a4 a5 a1 ⟨#[]⟩ ⟨#[]⟩ _ (HA3.out.drewN _)).mono ?_
    rintro e w8 ⟨rfl, n8, rfl⟩
    go_wp2_with fail
    go_quiet (fail)
    go_wp2_with fail
    go_quiet (fail)
    go_wp2_with fail
    go_ret
    exact ⟨rfl, below_drewN (below_drewN (below_drewN B4.out _) _) _⟩

set_option maxRecDepth 100000 in
set_option maxHeartbeats 8000000 in
theorem keep3 (a0 a1 : ByteArray) (a2 : Int) (a4 a5 : ByteArray) (a8 : Bool) (a9 : Int) (w : World) (hS : Small2 a0 a1 a4 a5 a2 a9) :
    Calls Try.prog 6 #[.string a0, .string a1, .int .i64 a2, .int .i64 3, .string a4, .string a5, .bool a8, .int .i64 a9] w fun e w' => e = .returned (.bool true) ∧ Below w.heap.size w w' := by
  obtain ⟨g0, g1, g4, g5, gt0, gt1, g8, g9⟩ := hS
  have Hz := hide (bytes19_any a0 a1 a2 3 a4 a5 a8 a9 w (by unfold maxLen; omega) (by unfold maxLen; omega) (by unfold maxLen; omega) (by unfold maxLen; omega))
  obtain ⟨hM1, hM2, hr1, hr4⟩ := many1 a2 gt0 gt1
  have pn := neq_same
  go_enter Try.func6, Try.ntmps6
  go_wp2_with fail
  refine Hz.out.mono ?_
  rintro e w1 ⟨⟨b, rfl⟩, rfl⟩
  clear Hz
  cases b with
  | false =>
    go_wp2_with fail
    go_ret
    exact ⟨rfl, Below.refl _ _⟩
  | true =>
    go_wp2_with fail
    refine (ends_any a8 a9 w1).mono ?_
    rintro e w2 ⟨⟨s, t, kin, rfl, hks⟩, hb2⟩
    clear hks
    go_wp2_with fail
    have hA := assoc_mk w2 a0 a2 (some s) (some t) 3 kin a4 a5 a1 ⟨#[]⟩ ⟨#[]⟩ ⟨#[]⟩ ⟨#[]⟩ ⟨#[]⟩
    have hb3 : Below w1.heap.size w1 (w2.alloc (.cells #[.string a0, .int .i64 a2, .pointer (some s), .pointer (some t), .int .i64 3, .pointer kin, .string a4, .string a5, .string a1, .string ⟨#[]⟩, .string ⟨#[]⟩, .string ⟨#[]⟩, .string ⟨#[]⟩, .string ⟨#[]⟩] 48)) := hb2.alloc hb2.size _
    generalize w2.alloc (.cells #[.string a0, .int .i64 a2, .pointer (some s), .pointer (some t), .int .i64 3, .pointer kin, .string a4, .string a5, .string a1, .string ⟨#[]⟩, .string ⟨#[]⟩, .string ⟨#[]⟩, .string ⟨#[]⟩, .string ⟨#[]⟩] 48) = W3 at *
    clear hb2
    generalize w2.heap.size = g at *
    refine (reversed_any g a0 a2 (some s) (some t) 3 kin a4 a5 a1 ⟨#[]⟩ ⟨#[]⟩ W3 hA).mono ?_
    rintro e w4 ⟨rfl, hA4, hb4⟩
    replace hA4 : Assoc w4 W3.heap.size a1 (rtyp a2) (some t) (some s) 3 kin a5 a4 a0 ⟨#[]⟩ ⟨#[]⟩ := hA4
    have hA3 := hA.below hb4
    have HA3 := hide hA3
    have HA4 := hide hA4
    have B4 := hide (hb3.trans (hb4.mono hb3.size))
    obtain ⟨c0, c1, c2, c3, c4, c5, c6, c7, c8, c9, c10⟩ := hA3
    obtain ⟨d0, d1, d2, d3, d4, d5, d6, d7, d8, d9, d10⟩ := hA4
    clear hA hb3 hb4 c0 c2 c3 c5 c6 c7 c8 c9 c10 d0 d6 d7 d8 d9 d10
    generalize W3.heap.size = g4 at *
    go_wp2_with fail
    go_quiet ((first | (go_at_call 20; exact Calls.quiet_of_same (manyS_any _ _)) | (go_at_call 21; exact Calls.quiet_of_same (manyT_any _ _))))
    go_wp2_with fail
    refine (src3 g4 a1 (rtyp a2) (some t) (some s) kin a5 a4 a0 ⟨#[]⟩ ⟨#[]⟩ _ (HA4.out.drewN _)).mono ?_
    rintro e w5 ⟨rfl, n5, rfl⟩
    go_wp2_with fail
    refine (tgt3 g a0 a2 (some s) (some t) kin a4 a5 a1 ⟨#[]⟩ ⟨#[]⟩ _ (HA3.out.drewN _)).mono ?_
    rintro e w6 ⟨rfl, n6, rfl⟩
    go_wp2_with fail
    refine (tgt3 g4 a1 (rtyp a2) (some t) (some s) kin a5 a4 a0 ⟨#[]⟩ ⟨#[]⟩ _ (HA4.out.drewN _)).mono ?_
    rintro e w7 ⟨rfl, n7, rfl⟩
    go_wp2_with fail
    refine (src3 g a0 a2 (some s) (some t) kin a4 a5 a1 ⟨#[]⟩ ⟨#[]⟩ _ (HA3.out.drewN _)).mono ?_
    rintro e w8 ⟨rfl, n8, rfl⟩
    go_wp2_with fail
    go_quiet (fail)
    go_wp2_with fail
    go_quiet (fail)
    go_wp2_with fail
    go_ret
    exact ⟨rfl, below_drewN (below_drewN (below_drewN B4.out _) _) _⟩

set_option maxRecDepth 100000 in
set_option maxHeartbeats 8000000 in
theorem keep4 (a0 a1 : ByteArray) (a2 : Int) (a4 a5 : ByteArray) (a8 : Bool) (a9 : Int) (w : World) (hS : Small2 a0 a1 a4 a5 a2 a9) :
    Calls Try.prog 6 #[.string a0, .string a1, .int .i64 a2, .int .i64 4, .string a4, .string a5, .bool a8, .int .i64 a9] w fun e w' => e = .returned (.bool true) ∧ Below w.heap.size w w' := by
  obtain ⟨g0, g1, g4, g5, gt0, gt1, g8, g9⟩ := hS
  have Hz := hide (bytes19_any a0 a1 a2 4 a4 a5 a8 a9 w (by unfold maxLen; omega) (by unfold maxLen; omega) (by unfold maxLen; omega) (by unfold maxLen; omega))
  obtain ⟨hM1, hM2, hr1, hr4⟩ := many1 a2 gt0 gt1
  have pn := neq_same
  go_enter Try.func6, Try.ntmps6
  go_wp2_with fail
  refine Hz.out.mono ?_
  rintro e w1 ⟨⟨b, rfl⟩, rfl⟩
  clear Hz
  cases b with
  | false =>
    go_wp2_with fail
    go_ret
    exact ⟨rfl, Below.refl _ _⟩
  | true =>
    go_wp2_with fail
    refine (ends_any a8 a9 w1).mono ?_
    rintro e w2 ⟨⟨s, t, kin, rfl, hks⟩, hb2⟩
    rcases hks with hks | hks
    rotate_left
    · go_wp2_with fail
      go_ret
      exact ⟨rfl, hb2⟩
    subst hks
    go_wp2_with fail
    have hA := assoc_mk w2 a0 a2 (some s) (some t) 4 (some s) a4 a5 a1 ⟨#[]⟩ ⟨#[]⟩ ⟨#[]⟩ ⟨#[]⟩ ⟨#[]⟩
    have hb3 : Below w1.heap.size w1 (w2.alloc (.cells #[.string a0, .int .i64 a2, .pointer (some s), .pointer (some t), .int .i64 4, .pointer (some s), .string a4, .string a5, .string a1, .string ⟨#[]⟩, .string ⟨#[]⟩, .string ⟨#[]⟩, .string ⟨#[]⟩, .string ⟨#[]⟩] 48)) := hb2.alloc hb2.size _
    generalize w2.alloc (.cells #[.string a0, .int .i64 a2, .pointer (some s), .pointer (some t), .int .i64 4, .pointer (some s), .string a4, .string a5, .string a1, .string ⟨#[]⟩, .string ⟨#[]⟩, .string ⟨#[]⟩, .string ⟨#[]⟩, .string ⟨#[]⟩] 48) = W3 at *
    clear hb2
    generalize w2.heap.size = g at *
    refine (reversed_any g a0 a2 (some s) (some t) 4 (some s) a4 a5 a1 ⟨#[]⟩ ⟨#[]⟩ W3 hA).mono ?_
    rintro e w4 ⟨rfl, hA4, hb4⟩
    replace hA4 : Assoc w4 W3.heap.size a1 (rtyp a2) (some t) (some s) 4 (some t) a5 a4 a0 ⟨#[]⟩ ⟨#[]⟩ := hA4
    have hA3 := hA.below hb4
    have HA3 := hide hA3
    have HA4 := hide hA4
    have B4 := hide (hb3.trans (hb4.mono hb3.size))
    obtain ⟨c0, c1, c2, c3, c4, c5, c6, c7, c8, c9, c10⟩ := hA3
    obtain ⟨d0, d1, d2, d3, d4, d5, d6, d7, d8, d9, d10⟩ := hA4
    clear hA hb3 hb4 c0 c2 c3 c5 c6 c7 c8 c9 c10 d0 d6 d7 d8 d9 d10
    generalize W3.heap.size = g4 at *
    go_wp2_with fail
    go_quiet ((first | (go_at_call 20; exact Calls.quiet_of_same (manyS_any _ _)) | (go_at_call 21; exact Calls.quiet_of_same (manyT_any _ _))))
    go_wp2_with fail
    refine (src4 g4 a1 (rtyp a2) (some t) (some s) (some t) a5 a4 a0 ⟨#[]⟩ ⟨#[]⟩ _ (HA4.out.drewN _)).mono ?_
    rintro e w5 ⟨rfl, n5, rfl⟩
    go_wp2_with fail
    refine (tgt4 g a0 a2 (some s) (some t) (some s) a4 a5 a1 ⟨#[]⟩ ⟨#[]⟩ _ (HA3.out.drewN _)).mono ?_
    rintro e w6 ⟨rfl, n6, rfl⟩
    go_wp2_with fail
    refine (tgt4 g4 a1 (rtyp a2) (some t) (some s) (some t) a5 a4 a0 ⟨#[]⟩ ⟨#[]⟩ _ (HA4.out.drewN _)).mono ?_
    rintro e w7 ⟨rfl, n7, rfl⟩
    go_wp2_with fail
    refine (src4 g a0 a2 (some s) (some t) (some s) a4 a5 a1 ⟨#[]⟩ ⟨#[]⟩ _ (HA3.out.drewN _)).mono ?_
    rintro e w8 ⟨rfl, n8, rfl⟩
    go_wp2_with fail
    go_quiet (fail)
    go_wp2_with fail
    go_quiet (fail)
    go_wp2_with fail
    go_ret
    exact ⟨rfl, below_drewN (below_drewN (below_drewN B4.out _) _) _⟩

set_option maxRecDepth 100000 in
set_option maxHeartbeats 8000000 in
theorem early6 (a0 a1 : ByteArray) (a2 a3 : Int) (a4 a5 : ByteArray) (a8 : Bool) (a9 : Int) (w : World) (w0 : a0.size ≤ maxLen) (w1 : a1.size ≤ maxLen) (w4 : a4.size ≤ maxLen) (w5 : a5.size ≤ maxLen)
    (hS : ¬ (Small2 a0 a1 a4 a5 a2 a9 ∧ 1 ≤ a3 ∧ a3 ≤ 4)) :
    Calls Try.prog 6 #[.string a0, .string a1, .int .i64 a2, .int .i64 a3, .string a4, .string a5, .bool a8, .int .i64 a9] w fun e w' => e = .returned (.bool true) ∧ Below w.heap.size w w' := by
  have HS := hide hS
  clear hS
  have Hz := hide (bytes19_any a0 a1 a2 a3 a4 a5 a8 a9 w w0 w1 w4 w5)
  unfold maxLen at w0 w1 w4 w5
  go_enter Try.func6, Try.ntmps6
  go_wp2_with fail
  refine Hz.out.mono ?_
  rintro e w1 ⟨⟨b, rfl⟩, rfl⟩
  clear Hz
  cases b with
  | false =>
    go_wp2_with fail
    go_ret
    exact ⟨rfl, Below.refl _ _⟩
  | true =>
    by_cases g0 : (65536 : Int) < a0.size
    · go_wp2_with fail
      go_ret
      exact ⟨rfl, Below.refl _ _⟩
    by_cases g1 : (65536 : Int) < a1.size
    · go_wp2_with fail
      go_ret
      exact ⟨rfl, Below.refl _ _⟩
    by_cases g4 : (65536 : Int) < a4.size
    · go_wp2_with fail
      go_ret
      exact ⟨rfl, Below.refl _ _⟩
    by_cases g5 : (65536 : Int) < a5.size
    · go_wp2_with fail
      go_ret
      exact ⟨rfl, Below.refl _ _⟩
    by_cases g20 : a2 < 1
    · go_wp2_with fail
      go_ret
      exact ⟨rfl, Below.refl _ _⟩
    by_cases g21 : 4 < a2
    · go_wp2_with fail
      go_ret
      exact ⟨rfl, Below.refl _ _⟩
    by_cases g30 : a3 < 1
    · go_wp2_with fail
      go_ret
      exact ⟨rfl, Below.refl _ _⟩
    by_cases g31 : 4 < a3
    · go_wp2_with fail
      go_ret
      exact ⟨rfl, Below.refl _ _⟩
    by_cases g8 : a9 < 0
    · go_wp2_with fail
      go_ret
      exact ⟨rfl, Below.refl _ _⟩
    by_cases g9 : 3 < a9
    · go_wp2_with fail
      go_ret
      exact ⟨rfl, Below.refl _ _⟩
    exact absurd ⟨⟨by omega, by omega, by omega, by omega, by omega, by omega, by omega, by omega⟩, by omega, by omega⟩ HS.out
end Go.Proofs.Qxb6003612a.Rev
