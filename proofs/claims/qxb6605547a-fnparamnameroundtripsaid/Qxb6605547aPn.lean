import Derived.Test.Qxb6605547aRows
import Derived.WalkKit
import Derived.ProofKit
import Derived.OpenShut
import Derived.ShutString
import Derived.Outline
import Derived.WalkSpells
import Derived.WalkLawsBesides
namespace Go.Proofs.Qxb6605547a.Pn
open Go.ChangeShapes Go.WideShapes Go.ChangeAt Go.RowKit

/-- a name written in braces -/
def brace (n : ByteArray) : ByteArray := ⟨#[123]⟩ ++ n ++ ⟨#[125]⟩

theorem brace_list (n : ByteArray) : (brace n).data.toList = 123 :: (n.data.toList ++ [125]) := by
  unfold brace; simp

theorem size_list (n : ByteArray) : n.size = n.data.toList.length := by simp

theorem brace_size (n : ByteArray) : (brace n).size = n.size + 2 := by
  rw [size_list, brace_list, size_list]; simp

theorem bytes_ext {a b : ByteArray} (h : a.data.toList = b.data.toList) : a = b := by
  cases a; cases b; simp at h; simpa using h

theorem get_list (s : ByteArray) (i : Nat) (h : i < s.size) : s[i] = s.data.toList[i]'(by simpa using h) := by
  simp [ByteArray.getElem_eq_getElem_data]

theorem brace_extract (n : ByteArray) : (brace n).extract 1 ((brace n).size - 1) = n := by
  apply bytes_ext
  rw [brace_size]
  simp [brace_list]

theorem brace_zero (n : ByteArray) (h : 0 < (brace n).size) : (brace n)[0] = 123 := by
  rw [get_list]; simp [brace_list]
theorem brace_last (n : ByteArray) (h : (brace n).size - 1 < (brace n).size) : (brace n)[(brace n).size - 1] = 125 := by
  rw [get_list]; simp [brace_list, brace_size]

theorem list_of (l : List UInt8) (h2 : 2 ≤ l.length) (h0 : l[0] = 123) (h1 : l[l.length - 1] = 125) :
    l = 123 :: (((l.drop 1).take (l.length - 2)) ++ [125]) := by
  match l, h2 with
  | a :: b :: r, _ =>
    simp at h0 h1 ⊢
    refine ⟨h0, ?_⟩
    have e : (b :: r) = (b :: r).take r.length ++ (b :: r).drop r.length := (List.take_append_drop _ _).symm
    have : (b :: r).drop r.length = [125] := by
      rw [List.drop_eq_getElem_cons (by simp)]
      simp [h1]
    rw [this] at e
    exact e

theorem brace_of (s : ByteArray) (h2 : 2 ≤ s.size) (h0 : (s[0] : UInt8).toNat = 123) (h1 : (s[s.size - 1] : UInt8).toNat = 125) :
    s = brace (s.extract 1 (s.size - 1)) := by
  apply bytes_ext
  rw [brace_list]
  have e0 : s[0] = 123 := by apply UInt8.toNat_inj.1; simpa using h0
  have e1 : s[s.size - 1] = 125 := by apply UInt8.toNat_inj.1; simpa using h1
  rw [get_list] at e0 e1
  have := list_of s.data.toList (by simpa using h2) e0 (by simpa using e1)
  simpa [Nat.sub_sub] using this

theorem toList_inj {a b : ByteArray} (h : a.toList = b.toList) : a = b := by
  apply bytes_ext
  rw [← ByteArray.toList_eq, ← ByteArray.toList_eq]; exact h

theorem ret_pn {a b : ByteArray} (h : a = b) : Ending.returned (.tuple #[.string a, .bool true]) = .returned (.tuple #[.string b, .bool true]) := by rw [h]

set_option maxHeartbeats 400000 in
theorem yesAt (s n : ByteArray) (w : World) (hs : s.size ≤ maxLen) (h2 : 2 ≤ s.size) (h0 : ∀ h : 0 < s.size, s[0] = 123) (h1 : ∀ h : s.size - 1 < s.size, s[s.size - 1] = 125)
    (he : s.extract 1 (s.size - 1) = n) :
    Calls Try.prog 20 #[.string s] w fun e w' => e = .returned (.tuple #[.string n, .bool true]) ∧ w' = w := by
  unfold maxLen at hs
  have h3 : (2 : Int) ≤ s.size := by omega
  have H0 : Hid (s[0] = 123) := h0 (by omega)
  have H1 : Hid (s[s.size - 1] = 125) := h1 (by omega)
  have He : Hid (s.extract 1 (s.size - 1) = n) := he
  clear h0 h1 he
  go_enter Try.func20, Try.ntmps20
  go_wp2
  · exfalso; rename_i h; have := H1.out; simp [this] at h; omega
  · go_ret2; exact ⟨ret_pn He.out, rfl⟩
  · exfalso; rename_i h; have := H0.out; simp [this] at h

theorem yes (n : ByteArray) (w : World) (hs : (brace n).size ≤ maxLen) :
    Calls Try.prog 20 #[.string (brace n)] w fun e w' => e = .returned (.tuple #[.string n, .bool true]) ∧ w' = w :=
  yesAt (brace n) n w hs (by rw [brace_size]; omega) (brace_zero n) (brace_last n) (brace_extract n)

set_option maxHeartbeats 400000 in
theorem no (s : ByteArray) (w : World) (hs : s.size ≤ maxLen) (hn : ∀ n, s ≠ brace n) :
    Calls Try.prog 20 #[.string s] w fun e w' => e = .returned (.tuple #[.string ⟨#[]⟩, .bool false]) ∧ w' = w := by
  unfold maxLen at hs
  have Hn : Hid (∀ n, s ≠ brace n) := hn
  clear hn
  by_cases h2 : (2 : Int) ≤ s.size
  · go_enter Try.func20, Try.ntmps20
    go_wp2
    · go_ret2; exact ⟨rfl, rfl⟩
    · exfalso
      rename_i h0 _ h1
      exact Hn.out _ (brace_of s (by omega) (by omega) (by have := h1.2; simp at this; omega))
    · go_ret2; exact ⟨rfl, rfl⟩
  · go_enter Try.func20, Try.ntmps20
    go_wp2
    go_ret2
    exact ⟨rfl, rfl⟩

theorem zzYes (n : ByteArray) (w : World) (hs : (brace n).size ≤ maxLen) :
    Calls Try.prog 8 #[.string (brace n)] w fun e w' => e = .returned (.tuple #[.string n, .bool true]) ∧ w' = w := by
  go_enter Try.func8, Try.ntmps8
  go_wp2_with (go_at_call 20; refine (yes n _ hs).mono ?_; rintro e w' ⟨rfl, rfl⟩)
  go_ret2
  exact ⟨rfl, rfl⟩

theorem zzYesAt (s n : ByteArray) (w : World) (hs : s.size ≤ maxLen) (hb : s = brace n) :
    Calls Try.prog 8 #[.string s] w fun e w' => e = .returned (.tuple #[.string n, .bool true]) ∧ w' = w := by
  subst hb; exact zzYes n w hs

theorem zzNo (s : ByteArray) (w : World) (hs : s.size ≤ maxLen) (hn : ∀ n, s ≠ brace n) :
    Calls Try.prog 8 #[.string s] w fun e w' => e = .returned (.tuple #[.string ⟨#[]⟩, .bool false]) ∧ w' = w := by
  have Hn : Hid (∀ n, s ≠ brace n) := hn
  clear hn
  go_enter Try.func8, Try.ntmps8
  go_wp2_with (go_at_call 20; refine (no s _ hs Hn.out).mono ?_; rintro e w' ⟨rfl, rfl⟩)
  go_ret2
  exact ⟨rfl, rfl⟩

theorem bytes7 (s : ByteArray) (w : World) (hs : (s.size : Int) ≤ 1048576) :
    Calls Try.prog 7 #[.string s] w fun e w' => e = .returned (.bool true) ∧ w' = w := by
  go_enter Try.func7, Try.ntmps7
  go_wp2
  go_ret
  exact ⟨rfl, rfl⟩

theorem bytes9 (s : ByteArray) (w : World) (hs : (s.size : Int) ≤ 1048576) :
    Calls Try.prog 9 #[.string s] w fun e w' => e = .returned (.bool true) ∧ w' = w := by
  go_enter Try.func9, Try.ntmps9
  go_wp2
  go_ret
  exact ⟨rfl, rfl⟩

theorem bytes10 (s : ByteArray) (w : World) (hs : (s.size : Int) ≤ 1048576) :
    Calls Try.prog 10 #[.string s] w fun e w' => e = .returned (.bool true) ∧ w' = w := by
  go_enter Try.func10, Try.ntmps10
  go_wp2
  go_ret
  exact ⟨rfl, rfl⟩

end Go.Proofs.Qxb6605547a.Pn
