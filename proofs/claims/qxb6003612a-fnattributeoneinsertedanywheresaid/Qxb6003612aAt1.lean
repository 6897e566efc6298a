import Derived.Test.Qxb6003612aAt0
import Derived.LoopTactic
namespace Go.Proofs.Qxb6003612a.At
open Go.ChangeShapes Go.WideShapes Go.ChangeAt Go.RowKit

set_option maxRecDepth 100000 in
set_option maxHeartbeats 4000000 in
theorem zzBytes7_any (a : Option Addr) (n c : Nat) (k0 : Int) (q : ByteArray) (zs : List ZA) (w : World)
    (hA : Attrs w a zs) (hn : zs.length = n) (hl : n ≤ maxLen) (hq : q.size ≤ maxLen)
    (hz : ∀ z ∈ zs, z.nm.size ≤ maxLen ∧ z.de.size ≤ maxLen ∧ z.pw.size ≤ maxLen ∧ z.mi.size ≤ maxLen) :
    Calls Try.prog 7 #[.slice a n c, .int .i64 k0, .string q] w fun e w' => BoolRet e (n + tot zs + q.size ≤ 1048576) ∧ w' = w := by
  unfold maxLen at hl hq
  have HA := hide hA
  have HN := hide hn
  have HZ := hide hz
  clear hA hn hz
  by_cases b0 : (1048576 : Int) < n
  · go_enter Try.func7, Try.ntmps7
    go_wp2
    go_ret
    exact ⟨BoolRet.no, rfl⟩
  go_enter Try.func7, Try.ntmps7
  go_wp2
  go_loop [7, 8] (fun s i => ∃ k : Nat, k ≤ n ∧ i = .int .i64 k ∧ ∃ m : Nat, m ≤ 1048576 ∧ Hid (m = n + tot (zs.take k)) ∧ s = .int .i64 m) (fun _ i => n - (intOf i).toNat)
  case atStart => exact ⟨0, by omega, rfl, n, by omega, by simp [Hid, tot], rfl⟩
  case round =>
    obtain ⟨k, hk, rfl, m, hm, Hm, rfl⟩ := hrel
    by_cases hlt : k < n
    · obtain ⟨z, hz⟩ := at_lt zs k n HN.out hlt
      obtain ⟨bk, off, rfl, h8⟩ := HA.out k z hz
      obtain ⟨s0, s1, s2, s3⟩ := HZ.out z (List.mem_of_getElem? hz)
      unfold maxLen at s0 s1 s2 s3
      have Hs := hide (tot_take_succ zs k z hz)
      have c0 := h8.c0
      have c3 := h8.c3
      have c6 := h8.c6
      have c7 := h8.c7
      clear hz h8
      obtain ⟨nm, sc, li, de, ge, un, pw, mi⟩ := z
      unfold ZA.len at Hs
      simp only at s0 s1 s2 s3 Hs c0 c3 c6 c7
      go_wp2
      all_goals first
        | (go_round
           case rel => exact ⟨k + 1, by omega, by go_num, m + nm.size + de.size + pw.size + mi.size, by omega, by have := Hm.out; have := Hs.out; unfold Hid; omega, by go_num⟩
           case measure => simp [intOf]; omega)
        | (go_ret
           exact ⟨BoolRet.no, rfl⟩)
    · have hk0 : k = n := by omega
      have Hm0 : Hid (m = n + tot zs) := by
        have h1 := Hm.out
        rw [hk0] at h1
        rw [List.take_of_length_le (by rw [HN.out]; exact Nat.le_refl _)] at h1
        exact h1
      clear Hm hk0
      by_cases x0 : (1048576 : Int) < q.size
      · go_wp2
        go_ret
        exact ⟨BoolRet.no, rfl⟩
      by_cases x1 : (1048576 : Int) < m + q.size
      · go_wp2
        go_ret
        exact ⟨BoolRet.no, rfl⟩
      go_wp2
      go_ret
      exact ⟨BoolRet.yes (by have := Hm0.out; omega), rfl⟩

set_option maxRecDepth 100000 in
set_option maxHeartbeats 4000000 in
theorem over_any (a : Option Addr) (n c : Nat) (bud : Int) (zs : List ZA) (w : World)
    (hA : Attrs w a zs) (hn : zs.length = n) (hl : n ≤ 1048576) (ht : tot zs ≤ 1048576) (hb0 : -4194304 ≤ bud) (hb1 : bud ≤ 1048576) :
    Calls Try.prog 8 #[.slice a n c, .int .i64 bud] w fun e w' => BoolAny e ∧ Below w.heap.size w w' := by
  have HA := hide hA
  have HN := hide hn
  clear hA hn
  go_enter Try.func8, Try.ntmps8
  go_wp2
  go_loopw [5, 6] (fun s i wr => ∃ k : Nat, k ≤ n ∧ i = .int .i64 k ∧ (∃ m : Int, 0 ≤ m ∧ m ≤ 1048576 ∧ s = .int .i64 m) ∧ Below w.heap.size w wr) (fun _ i _ => n - (intOf i).toNat)
  case atStart => exact ⟨0, by omega, rfl, ⟨0, by omega, by omega, rfl⟩, Below.refl _ _⟩
  case round =>
    obtain ⟨k, hk, rfl, ⟨m, hm0, hm1, rfl⟩, hb⟩ := hrel
    by_cases hlt : k < n
    · obtain ⟨z, hz⟩ := at_lt zs k n HN.out hlt
      obtain ⟨bk, off, rfl, h8⟩ := HA.out k z hz
      have hbk : bk < w.heap.size := cell_lt h8.c0
      have hlen : z.len ≤ 1048576 := Nat.le_trans (len_le zs k z hz) ht
      have H8 : Hid (∀ W, Below w.heap.size w W → At8 W bk (off + k * 8) z) := fun W hW => h8.below hW hbk
      clear hz h8
      obtain ⟨c0, c1, c2, c3, c4, c5, c6, c7⟩ := H8.out wr hb
      go_wp2_with fail
      refine (tooBig_any z wr hlen).mono ?_
      rintro e w1 ⟨⟨b, rfl⟩, hb1⟩
      have hbb := hb.trans (hb1.mono hb.size)
      clear hb1 c0 c1 c2 c3 c4 c5 c6 c7
      obtain ⟨c0, c1, c2, c3, c4, c5, c6, c7⟩ := H8.out w1 hbb
      cases b with
      | true =>
        go_wp2_with fail
        go_ret
        exact ⟨BoolAny.mk _, hbb⟩
      | false =>
        go_wp2_with fail
        refine (bytes_any z w1 hlen).mono ?_
        rintro e w2 ⟨⟨d, hd0, hd1, rfl⟩, hb2⟩
        have hbc := hbb.trans (hb2.mono hbb.size)
        clear hb2 c0 c1 c2 c3 c4 c5 c6 c7
        by_cases hov : bud < m + d
        · go_wp2_with fail
          go_ret
          exact ⟨BoolAny.mk _, hbc⟩
        · go_wp2_with fail
          go_roundw
          case rel => exact ⟨k + 1, by omega, by go_num, ⟨m + d, by omega, by omega, rfl⟩, hbc⟩
          case measure => simp [intOf]; omega
    · go_wp2
      go_ret
      exact ⟨BoolAny.mk _, hb⟩

set_option maxRecDepth 100000 in
set_option maxHeartbeats 4000000 in
theorem zzBytes13_any (a : Option Addr) (n c : Nat) (k0 : Int) (x : ZA) (q : ByteArray) (zs : List ZA) (w : World)
    (hA : Attrs w a zs) (hn : zs.length = n) (hl : n ≤ maxLen) (hq : q.size ≤ maxLen) (hx : x.nm.size ≤ maxLen ∧ x.de.size ≤ maxLen ∧ x.pw.size ≤ maxLen ∧ x.mi.size ≤ maxLen)
    (hz : ∀ z ∈ zs, z.nm.size ≤ maxLen ∧ z.de.size ≤ maxLen ∧ z.pw.size ≤ maxLen ∧ z.mi.size ≤ maxLen) :
    Calls Try.prog 13 #[.slice a n c, .int .i64 k0, x.val, .string q] w fun e w' => BoolRet e (n + tot zs + x.len + q.size ≤ 1048576) ∧ Below w.heap.size w w' := by
  obtain ⟨r0, r1, r2, r3⟩ := hx
  unfold maxLen at hl hq r0 r1 r2 r3
  have HA := hide hA
  have HN := hide hn
  have HZ := hide hz
  have HX := hide (show x.len = x.nm.size + x.de.size + x.pw.size + x.mi.size from rfl)
  clear hA hn hz
  unfold ZA.val
  by_cases b0 : (1048576 : Int) < n
  · go_enter Try.func13, Try.ntmps13
    go_wp2
    go_ret
    exact ⟨BoolRet.no, (Below.refl _ _).alloc (Nat.le_refl _) _⟩
  go_enter Try.func13, Try.ntmps13
  go_wp2
  go_loop [9, 10] (fun s i => ∃ k : Nat, k ≤ n ∧ i = .int .i64 k ∧ ∃ m : Nat, m ≤ 1048576 ∧ Hid (m = n + tot (zs.take k)) ∧ s = .int .i64 m) (fun _ i => n - (intOf i).toNat)
  case atStart => exact ⟨0, by omega, rfl, n, by omega, by simp [Hid, tot], rfl⟩
  case round =>
    obtain ⟨k, hk, rfl, m, hm, Hm, rfl⟩ := hrel
    by_cases hlt : k < n
    · obtain ⟨z, hz⟩ := at_lt zs k n HN.out hlt
      obtain ⟨bk, off, rfl, h8⟩ := HA.out k z hz
      have hbk : bk < w.heap.size := cell_lt h8.c0
      obtain ⟨s0, s1, s2, s3⟩ := HZ.out z (List.mem_of_getElem? hz)
      unfold maxLen at s0 s1 s2 s3
      have Hs := hide (tot_take_succ zs k z hz)
      have c0 := h8.c0
      have c3 := h8.c3
      have c6 := h8.c6
      have c7 := h8.c7
      clear hz h8
      obtain ⟨nm, sc, li, de, ge, un, pw, mi⟩ := z
      unfold ZA.len at Hs
      simp only at s0 s1 s2 s3 Hs c0 c3 c6 c7
      go_wp2
      all_goals first
        | (go_round
           case rel => exact ⟨k + 1, by omega, by go_num, m + nm.size + de.size + pw.size + mi.size, by omega, by have := Hm.out; have := Hs.out; unfold Hid; omega, by go_num⟩
           case measure => simp [intOf]; omega)
        | (go_ret
           exact ⟨BoolRet.no, (Below.refl _ _).alloc (Nat.le_refl _) _⟩)
    · have hk0 : k = n := by omega
      have Hm0 : Hid (m = n + tot zs) := by
        have h1 := Hm.out
        rw [hk0] at h1
        rw [List.take_of_length_le (by rw [HN.out]; exact Nat.le_refl _)] at h1
        exact h1
      clear Hm hk0
      go_wp2
      all_goals first
        | (go_ret
           exact ⟨BoolRet.yes (by have := Hm0.out; have := HX.out; omega), (Below.refl _ _).alloc (Nat.le_refl _) _⟩)
        | (go_ret
           exact ⟨BoolRet.no, (Below.refl _ _).alloc (Nat.le_refl _) _⟩)
end Go.Proofs.Qxb6003612a.At
