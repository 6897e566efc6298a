import Derived.Test.Qxb6605547aRows
import Derived.WalkKit
import Derived.ProofKit
import Derived.OpenShut
import Derived.ShutString
import Derived.Outline
import Derived.WalkSpells
import Derived.WalkLawsBesides
import Derived.Below
import Derived.LoopTactic
namespace Go.Proofs.Qxb6605547a.Ex
open Go.ChangeShapes Go.WideShapes Go.ChangeAt Go.RowKit

/-- a slice of strings, as it lies in memory -/
def Strs (w : World) (a : Option Addr) (xs : List ByteArray) : Prop :=
  ∀ (k : Nat) (x : ByteArray), xs[k]? = some x → ∃ bk off, a = some ⟨bk, off, none⟩ ∧ w.cell? ⟨bk, off + k, none⟩ = some (.string x)

/-- a slice of ints, as it lies in memory -/
def Ints (w : World) (a : Option Addr) (zs : List Int) : Prop :=
  ∀ (k : Nat) (z : Int), zs[k]? = some z → ∃ bk off, a = some ⟨bk, off, none⟩ ∧ w.cell? ⟨bk, off + k, none⟩ = some (.int .i64 z)

/-- an index that a part may bear -/
def okIdx (n : Nat) (z : Int) : Prop := z = -1 ∨ z = -2 ∨ (0 ≤ z ∧ z < n)

def okTo (n : Nat) (zs : List Int) (k : Nat) : Prop := ∀ (j : Nat) (z : Int), j < k → zs[j]? = some z → okIdx n z

theorem okTo_succ {n : Nat} {zs : List Int} {k : Nat} {z : Int} (h : okTo n zs k) (hz : zs[k]? = some z) (ho : okIdx n z) : okTo n zs (k + 1) := by
  intro j y hj hy
  by_cases e : j = k
  · subst e; rw [hz] at hy; cases hy; exact ho
  · exact h j y (by omega) hy

/-- the law's domain -/
def Dom (n0 n1 n4 : Nat) (fr : Int) (zs : List Int) : Prop := n0 = n1 ∧ 0 ≤ fr ∧ fr ≤ n4 ∧ okTo n4 zs n1

/-- the sum of the lengths -/
def tot (xs : List ByteArray) : Nat := (xs.map (·.size)).sum

theorem tot_take_succ (xs : List ByteArray) (k : Nat) (x : ByteArray) (h : xs[k]? = some x) : tot (xs.take (k + 1)) = tot (xs.take k) + x.size := by
  unfold tot
  rw [List.take_add_one, h]; simp

theorem tot_take_le (xs : List ByteArray) (k : Nat) : tot (xs.take k) ≤ tot xs := by
  have e : tot xs = tot (xs.take k) + tot (xs.drop k) := by
    unfold tot
    rw [← List.sum_append, ← List.map_append, List.take_append_drop]
  omega

/-- it returned a bool; where that is true, p holds -/
def BoolRet (e : Ending) (p : Prop) : Prop := ∃ b : Bool, (b = true → p) ∧ e = .returned (.bool b)
theorem BoolRet.no {p : Prop} : BoolRet (.returned (.bool false)) p := ⟨false, fun h => (by cases h), rfl⟩
theorem BoolRet.yes {p : Prop} (h : p) : BoolRet (.returned (.bool true)) p := ⟨true, fun _ => h, rfl⟩
theorem BoolRet.any {b : Bool} : BoolRet (.returned (.bool b)) True := ⟨b, fun _ => trivial, rfl⟩
theorem BoolRet.of {b : Bool} {p : Prop} (h : p) : BoolRet (.returned (.bool b)) p := ⟨b, fun _ => h, rfl⟩

theorem hide {p : Prop} (h : p) : Hid p := h

theorem size_le (xs : List ByteArray) (k : Nat) (x : ByteArray) (h : xs[k]? = some x) : x.size ≤ tot xs := by
  have h1 := tot_take_succ xs k x h
  have h2 := tot_take_le xs (k + 1)
  omega

theorem at_lt {α : Type} (xs : List α) (k n : Nat) (h : xs.length = n) (hk : k < n) : ∃ x, xs[k]? = some x :=
  ⟨_, List.getElem?_eq_getElem (by rw [h]; exact hk)⟩

set_option maxHeartbeats 400000 in
theorem strBytes_any (a : Option Addr) (n cap : Nat) (xs : List ByteArray) (w : World) (hS : Strs w a xs) (hn : xs.length = n) (hl : n ≤ 1048576) (ht : tot xs ≤ 1048576) :
    Calls Try.prog 22 #[.slice a n cap] w fun e w' => (∃ n : Int, 0 ≤ n ∧ n ≤ 4194304 ∧ e = .returned (.int .i64 n)) ∧ w' = w := by
  have HS := hide hS
  have Hn := hide hn
  clear hS hn
  go_enter Try.func22, Try.ntmps22
  go_wp2
  go_loop [3, 4] (fun s i => ∃ k : Nat, k ≤ n ∧ i = .int .i64 k ∧ ∃ m : Nat, m ≤ 1048576 ∧ s = .int .i64 m) (fun _ i => n - (intOf i).toNat)
  case atStart => exact ⟨0, by omega, rfl, 0, by omega, rfl⟩
  case round =>
    obtain ⟨k, hk, rfl, m, hm, rfl⟩ := hrel
    by_cases hlt : k < n
    · obtain ⟨x, hx⟩ := at_lt xs k n Hn.out hlt
      obtain ⟨bk, off, rfl, hc⟩ := HS.out k x hx
      have hxs := size_le xs k x hx
      clear hx
      go_wp2
      · go_ret
        exact ⟨⟨_, by omega, by omega, rfl⟩, rfl⟩
      · go_round
        case rel => exact ⟨k + 1, by omega, by go_num, m + (16 + x.size), by omega, by go_num⟩
        case measure => simp [intOf]; omega
    · go_wp2
      go_ret
      exact ⟨⟨_, by omega, by omega, rfl⟩, rfl⟩

set_option maxHeartbeats 1000000 in
theorem zzBytes_any (a0 a1 a4 a5 : Option Addr) (n0 n1 n4 n5 c0 c1 c4 c5 : Nat) (fr : Int) (sl : Bool) (xs0 xs4 xs5 : List ByteArray) (w : World)
    (h0 : Strs w a0 xs0) (e0 : xs0.length = n0) (l0 : n0 ≤ maxLen) (l1 : n1 ≤ maxLen) (h4 : Strs w a4 xs4) (e4 : xs4.length = n4) (l4 : n4 ≤ maxLen) (h5 : Strs w a5 xs5) (e5 : xs5.length = n5) (l5 : n5 ≤ maxLen)
    (z0 : ∀ x ∈ xs0, x.size ≤ maxLen) (z4 : ∀ x ∈ xs4, x.size ≤ maxLen) (z5 : ∀ x ∈ xs5, x.size ≤ maxLen) :
    Calls Try.prog 13 #[.slice a0 n0 c0, .slice a1 n1 c1, .int .i64 fr, .bool sl, .slice a4 n4 c4, .slice a5 n5 c5] w fun e w' =>
      BoolRet e (n0 + tot xs0 + n1 + n4 + tot xs4 + n5 + tot xs5 ≤ 1048576) ∧ w' = w := by
  unfold maxLen at l0 l1 l4 l5
  have H0 := hide h0
  have H4 := hide h4
  have H5 := hide h5
  have E0 := hide e0
  have E4 := hide e4
  have E5 := hide e5
  have Z0 := hide z0
  have Z4 := hide z4
  have Z5 := hide z5
  clear h0 h4 h5 e0 e4 e5 z0 z4 z5
  by_cases b0 : (1048576 : Int) < n0
  · go_enter Try.func13, Try.ntmps13
    go_wp2
    go_ret
    exact ⟨BoolRet.no, rfl⟩
  go_enter Try.func13, Try.ntmps13
  go_wp2
  go_loop [13, 14] (fun s i => ∃ k : Nat, k ≤ n0 ∧ i = .int .i64 k ∧ ∃ m : Nat, m ≤ 1048576 ∧ Hid (m = n0 + tot (xs0.take k)) ∧ s = .int .i64 m) (fun _ i => n0 - (intOf i).toNat)
  case atStart => exact ⟨0, by omega, rfl, n0, by omega, by simp [Hid, tot], rfl⟩
  case round =>
    obtain ⟨k, hk, rfl, m, hm, Hm, rfl⟩ := hrel
    by_cases hlt : k < n0
    · obtain ⟨x, hx⟩ := at_lt xs0 k n0 E0.out hlt
      obtain ⟨bk, off, rfl, hc⟩ := H0.out k x hx
      have hz := Z0.out x (List.mem_of_getElem? hx)
      unfold maxLen at hz
      have Hs := hide (tot_take_succ xs0 k x hx)
      clear hx
      by_cases hbx : (1048576 : Int) < x.size
      · go_wp2
        go_ret
        exact ⟨BoolRet.no, rfl⟩
      · go_wp2
        · go_ret
          exact ⟨BoolRet.no, rfl⟩
        · go_round
          case rel => exact ⟨k + 1, by omega, by go_num, m + x.size, by omega, by have := Hm.out; have := Hs.out; unfold Hid; omega, by go_num⟩
          case measure => simp [intOf]; omega
    · have hk0 : k = n0 := by omega
      have Hm0 : Hid (m = n0 + tot xs0) := by
        have h1 := Hm.out
        rw [hk0, ← E0.out, List.take_length, E0.out] at h1
        exact h1
      clear Hm hk0
      by_cases b1 : (1048576 : Int) < n1
      · go_wp2
        go_ret
        exact ⟨BoolRet.no, rfl⟩
      by_cases b1' : (1048576 : Int) < m + n1
      · go_wp2
        go_ret
        exact ⟨BoolRet.no, rfl⟩
      by_cases b4 : (1048576 : Int) < n4
      · go_wp2
        go_ret
        exact ⟨BoolRet.no, rfl⟩
      by_cases b4' : (1048576 : Int) < m + n1 + n4
      · go_wp2
        go_ret
        exact ⟨BoolRet.no, rfl⟩
      go_wp2
      go_loop [13, 15] (fun s i => ∃ k : Nat, k ≤ n4 ∧ i = .int .i64 k ∧ ∃ m : Nat, m ≤ 1048576 ∧ Hid (m = n0 + tot xs0 + n1 + n4 + tot (xs4.take k)) ∧ s = .int .i64 m) (fun _ i => n4 - (intOf i).toNat)
      case atStart => exact ⟨0, by omega, rfl, m + n1 + n4, by omega, by have := Hm0.out; simp [Hid, tot] at this ⊢; omega, by go_num⟩
      case round =>
        clear hk hm Hm0 b1' b4'
        obtain ⟨k, hk, rfl, m, hm, Hm, rfl⟩ := hrel
        by_cases hlt : k < n4
        · obtain ⟨x, hx⟩ := at_lt xs4 k n4 E4.out hlt
          obtain ⟨bk, off, rfl, hc⟩ := H4.out k x hx
          have hz := Z4.out x (List.mem_of_getElem? hx)
          unfold maxLen at hz
          have Hs := hide (tot_take_succ xs4 k x hx)
          clear hx
          by_cases hbx : (1048576 : Int) < x.size
          · go_wp2
            go_ret
            exact ⟨BoolRet.no, rfl⟩
          · go_wp2
            · go_ret
              exact ⟨BoolRet.no, rfl⟩
            · go_round
              case rel => exact ⟨k + 1, by omega, by go_num, m + x.size, by omega, by have := Hm.out; have := Hs.out; unfold Hid; omega, by go_num⟩
              case measure => simp [intOf]; omega
        · have hk0 : k = n4 := by omega
          have Hm0 : Hid (m = n0 + tot xs0 + n1 + n4 + tot xs4) := by
            have h1 := Hm.out
            rw [hk0] at h1
            rw [List.take_of_length_le (by rw [E4.out]; exact Nat.le_refl _)] at h1
            exact h1
          clear Hm hk0
          by_cases b5 : (1048576 : Int) < n5
          · go_wp2
            go_ret
            exact ⟨BoolRet.no, rfl⟩
          by_cases b5' : (1048576 : Int) < m + n5
          · go_wp2
            go_ret
            exact ⟨BoolRet.no, rfl⟩
          go_wp2
          go_loop [13, 16] (fun s i => ∃ k : Nat, k ≤ n5 ∧ i = .int .i64 k ∧ ∃ m : Nat, m ≤ 1048576 ∧ Hid (m = n0 + tot xs0 + n1 + n4 + tot xs4 + n5 + tot (xs5.take k)) ∧ s = .int .i64 m) (fun _ i => n5 - (intOf i).toNat)
          case atStart => exact ⟨0, by omega, rfl, m + n5, by omega, by have := Hm0.out; simp [Hid, tot] at this ⊢; omega, by go_num⟩
          case round =>
            clear hk hm Hm0 b5'
            obtain ⟨k, hk, rfl, m, hm, Hm, rfl⟩ := hrel
            by_cases hlt : k < n5
            · obtain ⟨x, hx⟩ := at_lt xs5 k n5 E5.out hlt
              obtain ⟨bk, off, rfl, hc⟩ := H5.out k x hx
              have hz := Z5.out x (List.mem_of_getElem? hx)
              unfold maxLen at hz
              have Hs := hide (tot_take_succ xs5 k x hx)
              clear hx
              by_cases hbx : (1048576 : Int) < x.size
              · go_wp2
                go_ret
                exact ⟨BoolRet.no, rfl⟩
              · go_wp2
                · go_ret
                  exact ⟨BoolRet.no, rfl⟩
                · go_round
                  case rel => exact ⟨k + 1, by omega, by go_num, m + x.size, by omega, by have := Hm.out; have := Hs.out; unfold Hid; omega, by go_num⟩
                  case measure => simp [intOf]; omega
            · have hk0 : k = n5 := by omega
              have Hm0 : Hid (m = n0 + tot xs0 + n1 + n4 + tot xs4 + n5 + tot xs5) := by
                have h1 := Hm.out
                rw [hk0] at h1
                rw [List.take_of_length_le (by rw [E5.out]; exact Nat.le_refl _)] at h1
                exact h1
              clear Hm hk0
              go_wp2
              go_ret
              exact ⟨BoolRet.yes (by have := Hm0.out; omega), rfl⟩

set_option maxHeartbeats 1000000 in
theorem bytesFit_any (a0 a1 a4 a5 : Option Addr) (n0 n1 n4 n5 c0 c1 c4 c5 : Nat) (xs0 xs4 xs5 : List ByteArray) (w : World)
    (h0 : Strs w a0 xs0) (e0 : xs0.length = n0) (h4 : Strs w a4 xs4) (e4 : xs4.length = n4) (h5 : Strs w a5 xs5) (e5 : xs5.length = n5)
    (l0 : n0 ≤ 1048576) (l1 : n1 ≤ 1048576) (l4 : n4 ≤ 1048576) (l5 : n5 ≤ 1048576) (t0 : tot xs0 ≤ 1048576) (t4 : tot xs4 ≤ 1048576) (t5 : tot xs5 ≤ 1048576) :
    Calls Try.prog 14 #[.slice a0 n0 c0, .slice a1 n1 c1, .slice a4 n4 c4, .slice a5 n5 c5] w fun e w' => BoolRet e True ∧ w' = w := by
  have H0 := hide h0
  have H4 := hide h4
  have H5 := hide h5
  have E0 := hide e0
  have E4 := hide e4
  have E5 := hide e5
  clear h0 h4 h5 e0 e4 e5
  go_enter Try.func14, Try.ntmps14
  go_wp2_with fail
  refine (strBytes_any a0 n0 c0 xs0 w H0.out E0.out l0 t0).mono ?_
  rintro e w1 ⟨⟨m0, hm0, hm0', rfl⟩, rfl⟩
  by_cases g0 : (1048576 : Int) < m0
  · go_wp2_with fail
    go_ret
    exact ⟨BoolRet.no, rfl⟩
  by_cases g1 : (1048576 : Int) < m0 + 8 * n1
  · go_wp2_with fail
    go_ret
    exact ⟨BoolRet.no, rfl⟩
  go_wp2_with fail
  refine (strBytes_any a4 n4 c4 xs4 w1 H4.out E4.out l4 t4).mono ?_
  rintro e w2 ⟨⟨m4, hm4, hm4', rfl⟩, rfl⟩
  by_cases g4 : (1048576 : Int) < m0 + 8 * n1 + m4
  · go_wp2_with fail
    go_ret
    exact ⟨BoolRet.no, rfl⟩
  go_wp2_with fail
  refine (strBytes_any a5 n5 c5 xs5 w2 H5.out E5.out l5 t5).mono ?_
  rintro e w3 ⟨⟨m5, hm5, hm5', rfl⟩, rfl⟩
  go_wp2_with fail
  go_ret
  exact ⟨BoolRet.any, rfl⟩

theorem needsRest_yes (v : Value) (w : World) :
    Calls Try.prog 23 #[v, .bool true] w fun e w' => e = .returned (.bool true) ∧ w' = w := by
  go_enter Try.func23, Try.ntmps23
  go_wp2
  go_ret
  exact ⟨rfl, rfl⟩

set_option maxHeartbeats 400000 in
theorem restLen_any (a : Option Addr) (n cap : Nat) (fr : Int) (xs : List ByteArray) (w : World) (hS : Strs w a xs) (hn : xs.length = n) (hl : n ≤ 1048576) (ht : tot xs ≤ 1048576) (hf0 : 0 ≤ fr) (hf1 : fr ≤ n) :
    Calls Try.prog 24 #[.slice a n cap, .int .i64 fr] w fun e w' => (∃ n : Int, 0 ≤ n ∧ n ≤ 2097152 ∧ e = .returned (.int .i64 n)) ∧ w' = w := by
  obtain ⟨f, rfl⟩ := Int.eq_ofNat_of_zero_le hf0
  have HS := hide hS
  have Hn := hide hn
  clear hS hn
  go_enter Try.func24, Try.ntmps24
  go_wp2
  go_loop [5, 6] (fun s i => ∃ k : Nat, k ≤ n ∧ i = .int .i64 k ∧ ∃ m : Nat, m ≤ 2097152 ∧ Hid (m ≤ k + tot (xs.take k)) ∧ s = .int .i64 m) (fun _ i => n - (intOf i).toNat)
  case atStart => exact ⟨f, by omega, rfl, 0, by omega, by unfold Hid; omega, rfl⟩
  case round =>
    obtain ⟨k, hk, rfl, m, hm, Hm, rfl⟩ := hrel
    by_cases hlt : k < n
    · obtain ⟨x, hx⟩ := at_lt xs k n Hn.out hlt
      obtain ⟨bk, off, rfl, hc⟩ := HS.out k x hx
      have hxs := size_le xs k x hx
      have Hs := hide (tot_take_succ xs k x hx)
      have h2 := tot_take_le xs (k + 1)
      have H2 := hide h2
      clear hx h2
      go_wp2
      go_round
      case rel =>
        refine ⟨k + 1, by omega, by go_num, m + (1 + x.size), ?_, ?_, by go_num⟩
        · have := Hm.out; have := Hs.out; have := H2.out; omega
        · have := Hm.out; have := Hs.out; unfold Hid; omega
      case measure => simp [intOf]; omega
    · go_wp2
      · go_ret
        exact ⟨⟨_, by omega, by omega, rfl⟩, rfl⟩
      · go_ret
        exact ⟨⟨_, by omega, by omega, rfl⟩, rfl⟩

set_option maxHeartbeats 2000000 in
theorem domain_any (a0 a1 a4 : Option Addr) (n0 n1 n4 c0 c1 c4 : Nat) (fr : Int) (xs0 xs4 : List ByteArray) (zs : List Int) (w : World)
    (h0 : Strs w a0 xs0) (e0 : xs0.length = n0) (h1 : Ints w a1 zs) (e1 : zs.length = n1) (h4 : Strs w a4 xs4) (e4 : xs4.length = n4)
    (l0 : n0 ≤ 1048576) (l1 : n1 ≤ 1048576) (l4 : n4 ≤ 1048576) (t0 : tot xs0 ≤ 1048576) (t4 : tot xs4 ≤ 1048576) :
    Calls Try.prog 15 #[.slice a0 n0 c0, .slice a1 n1 c1, .int .i64 fr, .bool true, .slice a4 n4 c4] w fun e w' =>
      BoolRet e (Dom n0 n1 n4 fr zs) ∧ w' = w := by
  have H0 := hide h0
  have H1 := hide h1
  have H4 := hide h4
  have E0 := hide e0
  have E1 := hide e1
  have E4 := hide e4
  clear h0 h1 h4 e0 e1 e4
  by_cases hne : ¬ n0 = n1
  · have hb : ((n0 : Int) != (n1 : Int)) = true := by rw [bne_iff_ne]; omega
    go_enter Try.func15, Try.ntmps15
    go_wp2
    go_ret
    exact ⟨BoolRet.no, rfl⟩
  obtain rfl := Classical.not_not.1 hne
  clear hne
  go_enter Try.func15, Try.ntmps15
  go_wp2
  go_loop [11] (fun i => ∃ k : Nat, k ≤ n0 ∧ i = .int .i64 k ∧ Hid (okTo n4 zs k)) (fun i => n0 - (intOf i).toNat)
  case atStart => exact ⟨0, by omega, rfl, fun j z hj => absurd hj (by omega)⟩
  case round =>
    obtain ⟨k, hk, rfl, Hok⟩ := hrel
    by_cases hlt : k < n0
    · obtain ⟨z, hz⟩ := at_lt zs k n0 E1.out hlt
      obtain ⟨bk, off, rfl, hc⟩ := H1.out k z hz
      have Hz := hide hz
      clear hz
      by_cases hm1 : z = -1
      · subst hm1
        go_wp2
        go_round
        case rel => exact ⟨k + 1, by omega, by go_num, okTo_succ Hok.out Hz.out (Or.inl rfl)⟩
        case measure => simp [intOf]; omega
      by_cases hm2 : z = -2
      · subst hm2
        go_wp2
        go_round
        case rel => exact ⟨k + 1, by omega, by go_num, okTo_succ Hok.out Hz.out (Or.inr (Or.inl rfl))⟩
        case measure => simp [intOf]; omega
      have hb1 : (z == -1) = false := by rw [beq_eq_false_iff_ne]; exact hm1
      have hb2 : (z == -2) = false := by rw [beq_eq_false_iff_ne]; exact hm2
      by_cases hr : 0 ≤ z ∧ z < n4
      · obtain ⟨hr0, hr1⟩ := hr
        go_wp2
        go_round
        case rel => exact ⟨k + 1, by omega, by go_num, okTo_succ Hok.out Hz.out (Or.inr (Or.inr ⟨hr0, hr1⟩))⟩
        case measure => simp [intOf]; omega
      · by_cases hr0 : z < 0
        · go_wp2
          go_ret
          exact ⟨BoolRet.no, rfl⟩
        · have hr1 : (n4 : Int) ≤ z := by omega
          go_wp2
          go_ret
          exact ⟨BoolRet.no, rfl⟩
    · have hk0 : k = n0 := by omega
      have Hok0 : Hid (okTo n4 zs n0) := by rw [← hk0]; exact Hok
      clear hk0 Hok
      go_wp2_with fail
      refine (needsRest_yes _ w).mono ?_
      rintro e w1 ⟨rfl, rfl⟩
      by_cases hf0 : fr < 0
      · go_wp2_with fail
        go_ret
        exact ⟨BoolRet.no, rfl⟩
      by_cases hf1 : (n4 : Int) < fr
      · go_wp2_with fail
        go_ret
        exact ⟨BoolRet.no, rfl⟩
      go_wp2_with fail
      refine (restLen_any a4 n4 c4 fr xs4 w1 H4.out E4.out l4 t4 (by omega) (by omega)).mono ?_
      rintro e w2 ⟨⟨rl, hrl0, hrl1, rfl⟩, rfl⟩
      go_wp2_with fail
      go_loop [14, 15] (fun s i => ∃ k : Nat, k ≤ n0 ∧ i = .int .i64 k ∧ ∃ m : Int, 0 ≤ m ∧ m ≤ 4194304 ∧ s = .int .i64 m) (fun _ i => n0 - (intOf i).toNat)
      case atStart => exact ⟨0, by omega, rfl, 0, by omega, by omega, rfl⟩
      case round =>
        clear hk hlt
        obtain ⟨k, hk, rfl, m, hm0, hm1, rfl⟩ := hrel
        by_cases hlt : k < n0
        · obtain ⟨z, hz⟩ := at_lt zs k n0 E1.out hlt
          obtain ⟨bk, off, rfl, hc⟩ := H1.out k z hz
          have ho := Hok0.out k z hlt hz
          clear hz
          rcases ho with rfl | rfl | ⟨hz0, hz1⟩
          · obtain ⟨x, hx⟩ := at_lt xs0 k n0 E0.out hlt
            obtain ⟨bx, ox, rfl, hcx⟩ := H0.out k x hx
            have hxs := size_le xs0 k x hx
            clear hx
            go_wp2
            · go_ret
              exact ⟨BoolRet.no, rfl⟩
            · go_round
              case rel => exact ⟨k + 1, by omega, by go_num, m + x.size, by omega, by omega, rfl⟩
              case measure => simp [intOf]; omega
          · go_wp2
            · go_ret
              exact ⟨BoolRet.no, rfl⟩
            · go_round
              case rel => exact ⟨k + 1, by omega, by go_num, m + rl, by omega, by omega, rfl⟩
              case measure => simp [intOf]; omega
          · obtain ⟨j, rfl⟩ := Int.eq_ofNat_of_zero_le hz0
            obtain ⟨x, hx⟩ := at_lt xs4 j n4 E4.out (by omega)
            obtain ⟨bx, ox, rfl, hcx⟩ := H4.out j x hx
            have hxs := size_le xs4 j x hx
            clear hx
            go_wp2
            · go_ret
              exact ⟨BoolRet.no, rfl⟩
            · go_round
              case rel => exact ⟨k + 1, by omega, by go_num, m + x.size, by omega, by omega, rfl⟩
              case measure => simp [intOf]; omega
        · go_wp2
          go_ret
          exact ⟨BoolRet.of ⟨rfl, by omega, by omega, Hok0.out⟩, rfl⟩
end Go.Proofs.Qxb6605547a.Ex
