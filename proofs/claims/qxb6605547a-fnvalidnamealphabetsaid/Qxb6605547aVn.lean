import Derived.Test.Qxb6605547aRows
import Derived.WalkKit
import Derived.ProofKit
import Derived.OpenShut
import Derived.ShutString
import Derived.Outline
import Derived.WalkSpells
import Derived.WalkLawsBesides
import Derived.Lib.ConvBytes
import Derived.Lib.AtoiErrMem
import Derived.Below
import Derived.LoopTactic
namespace Go.Proofs.Qxb6605547a.Vn
open Go.ChangeShapes Go.WideShapes Go.ChangeAt Go.RowKit

/-- may this byte stand in a name? -/
def vc (n : Int) : Bool := decide ((97 ≤ n ∧ n ≤ 122) ∨ (65 ≤ n ∧ n ≤ 90) ∨ (48 ≤ n ∧ n ≤ 57) ∨ n = 95 ∨ n = 45)

def alpha : List UInt8 := [97, 98, 99, 100, 101, 102, 103, 104, 105, 106, 107, 108, 109, 110, 111, 112, 113, 114, 115, 116, 117, 118, 119, 120, 121, 122, 65, 66, 67, 68, 69, 70, 71, 72, 73, 74, 75, 76, 77, 78, 79, 80, 81, 82, 83, 84, 85, 86, 87, 88, 89, 90, 48, 49, 50, 51, 52, 53, 54, 55, 56, 57, 95, 45]

theorem alpha_yes : ∀ k : Nat, k < 64 → vc ((alpha.getD k 0).toNat : Int) = true := by decide +kernel
theorem alpha_no : ∀ n : Nat, n < 256 → vc (n : Int) = true → ∃ k : Nat, k < 64 ∧ (alpha.getD k 0).toNat = n := by decide +kernel

theorem get_list (s : ByteArray) (i : Nat) (h : i < s.size) : s[i] = s.data.toList.getD i 0 := by
  simp [ByteArray.getElem_eq_getElem_data, List.getD, h]

theorem hit (k n : Nat) (h : k < (⟨alpha.toArray⟩ : ByteArray).size) (e : (((⟨alpha.toArray⟩ : ByteArray)[k].toNat : Int) == (n : Int)) = true) : (alpha.getD k 0).toNat = n := by
  rw [get_list] at e
  have := beq_iff_eq.1 e
  simpa using Int.ofNat.inj this

theorem miss (k n : Nat) (h : k < (⟨alpha.toArray⟩ : ByteArray).size) (e : (((⟨alpha.toArray⟩ : ByteArray)[k].toNat : Int) == (n : Int)) = false) : (alpha.getD k 0).toNat ≠ n := by
  rw [get_list] at e
  have := beq_eq_false_iff_ne.1 e
  intro h2
  apply this
  rw [← h2]

theorem vc_none (n : Nat) (hn : n < 256) (h : ∀ i, i < 64 → (alpha.getD i 0).toNat ≠ n) : vc (n : Int) = false := by
  cases hv : vc (n : Int) with
  | false => rfl
  | true => obtain ⟨k, hk, e⟩ := alpha_no n hn hv; exact absurd e (h k hk)

theorem ret_bool {a b : Bool} (h : a = b) : Ending.returned (.bool a) = .returned (.bool b) := by rw [h]

set_option maxRecDepth 100000 in
set_option maxHeartbeats 400000 in
theorem inAlphabet_any (c : UInt8) (w : World) :
    Calls Try.prog 11 #[.int .u8 (c.toNat : Int)] w fun e w' => e = .returned (.bool (vc (c.toNat : Int))) ∧ w' = w := by
  have h0 : (c.toNat : Int) < 256 := by have := c.toNat_lt; omega
  generalize hn : c.toNat = n at *
  clear hn c
  go_enter Try.func11, Try.ntmps11
  go_wp2
  go_loop [3] (fun j => ∃ k : Nat, k ≤ 64 ∧ j = .int .i64 k ∧ Hid (∀ i, i < k → (alpha.getD i 0).toNat ≠ n)) (fun j => 64 - (intOf j).toNat)
  case atStart => exact ⟨0, by omega, rfl, fun i hi => absurd hi (by omega)⟩
  case round =>
    obtain ⟨k, hk, rfl, hall⟩ := hrel
    by_cases hlt : k < 64
    · have hlt' : (k : Int) < 64 := by omega
      go_wp2
      · have e := hit k n (by assumption) (by assumption)
        go_ret
        exact ⟨ret_bool (by rw [← e]; exact (alpha_yes k hlt).symm), rfl⟩
      · have e := miss k n (by assumption) (by assumption)
        go_round
        case rel =>
          refine ⟨k + 1, by omega, by go_num, fun i hi => ?_⟩
          by_cases hik : i = k
          · subst hik; exact e
          · exact hall.out i (by omega)
        case measure => simp [intOf]; omega
    · have hk64 : k = 64 := by omega
      go_wp2
      go_ret
      exact ⟨ret_bool (vc_none n (by omega) (by rw [← hk64]; exact hall.out)).symm, rfl⟩

def vcb (c : UInt8) : Bool := vc (c.toNat : Int)

/-- is each byte one that may stand in a name? -/
def vall (s : ByteArray) : Bool := s.data.toList.all vcb

/-- is it a name? -/
def vn (s : ByteArray) : Bool := decide (0 < s.size) && vall s

/-- the first k bytes may stand in a name -/
def pre (s : ByteArray) (k : Nat) : Prop := ∀ i, i < k → vc (((s.data.toList.getD i 0).toNat : Nat) : Int) = true

theorem size_list (n : ByteArray) : n.size = n.data.toList.length := by simp

theorem vall_true (s : ByteArray) (h : pre s s.size) : vall s = true := by
  unfold vall
  rw [List.all_eq_true]
  intro x hx
  obtain ⟨i, hi, e⟩ := List.mem_iff_getElem.1 hx
  have := h i (by rw [size_list]; exact hi)
  simpa [vcb, List.getD, List.getElem?_eq_getElem hi, e] using this

theorem vall_false (s : ByteArray) (k : Nat) (hk : k < s.size) (h : vc (((s.data.toList.getD k 0).toNat : Nat) : Int) = false) : vall s = false := by
  unfold vall
  rw [List.all_eq_false]
  have hk' : k < s.data.toList.length := by rw [← size_list]; exact hk
  refine ⟨s.data.toList[k], List.getElem_mem hk', ?_⟩
  unfold vcb
  simp only [List.getD, List.getElem?_eq_getElem hk', Option.getD_some] at h
  rw [h]; decide

theorem pre_succ (s : ByteArray) (k : Nat) (h : pre s k) (e : vc (((s.data.toList.getD k 0).toNat : Nat) : Int) = true) : pre s (k + 1) := by
  intro i hi
  by_cases hik : i = k
  · subst hik; exact e
  · exact h i (by omega)

set_option maxRecDepth 100000 in
set_option maxHeartbeats 1000000 in
theorem validName_any (s : ByteArray) (w : World) (hs : s.size ≤ 1048576) (h0 : 0 < s.size) :
    Calls Try.prog 21 #[.string s] w fun e w' => e = .returned (.bool (vall s)) ∧ Below w.heap.size w w' := by
  have hcv := Lib.run_convert_string_bytes (P := Try.prog) w 9 47 5 s (u := .string) Try.underlying9 Try.underlying47 Try.underlying5
  have hB : ∀ j, j < s.size → (Lib.bytesWorld w 5 s).cell? ⟨w.heap.size, j, none⟩ = some (.int .u8 (s.data.toList.getD j 0).toNat) := fun j hj => Lib.bytesWorld_cell w 5 s j hj
  have hbl := Lib.bytesWorld_below w 5 s
  generalize Lib.bytesWorld w 5 s = W1 at hcv hB hbl
  have hemp : (s.toList == []) = false := by
    rw [beq_eq_false_iff_ne]
    intro h
    rw [ByteArray.toList_eq] at h
    rw [size_list, h] at h0
    simp at h0
  have HB : Hid (∀ j, j < s.size → W1.cell? ⟨w.heap.size, j, none⟩ = some (.int .u8 (s.data.toList.getD j 0).toNat)) := hB
  clear hB
  go_enter Try.func21, Try.ntmps21
  go_wp2
  go_loop [10] (fun i => ∃ k : Nat, k ≤ s.size ∧ i = .int .i64 k ∧ Hid (pre s k)) (fun i => s.size - (intOf i).toNat)
  case atStart => exact ⟨0, by omega, rfl, fun i hi => absurd hi (by omega)⟩
  case round =>
    obtain ⟨k, hk, rfl, hall⟩ := hrel
    by_cases hlt : k < s.size
    · have hc := HB.out k hlt
      have hx0 : ((s.data.toList.getD k 0).toNat : Int) < 256 := by have := (s.data.toList.getD k 0).toNat_lt; omega
      have Hx : ∃ n : Nat, Hid (n = (s.data.toList.getD k 0).toNat) := ⟨_, rfl⟩
      obtain ⟨n, Hn⟩ := Hx
      rw [← Hn.out] at hc hx0
      by_cases h45 : n = 45
      · have hc45 : W1.cell? ⟨w.heap.size, k, none⟩ = some (.int .u8 45) := by rw [hc, h45]; rfl
        have H45 : Hid (n = 45) := h45
        clear hc hx0 h45
        go_wp2
        go_round
        case rel => exact ⟨k + 1, by omega, by go_num, pre_succ s k hall.out (by rw [← Hn.out, H45.out]; decide)⟩
        case measure => simp [intOf]; omega
      · have hb45 : ((n : Int) == 45) = false := by rw [beq_eq_false_iff_ne]; omega
        go_wp2
        all_goals first
          | (have hv : vc (n : Int) = true := by
               unfold vc; exact decide_eq_true (by omega)
             go_round
             case rel => exact ⟨k + 1, by omega, by go_num, pre_succ s k hall.out (by rw [← Hn.out]; exact hv)⟩
             case measure => simp [intOf]; omega)
          | (have hv : vc (n : Int) = false := by
               unfold vc; exact decide_eq_false (by omega)
             go_ret
             exact ⟨ret_bool (vall_false s k hlt (by rw [← Hn.out]; exact hv)).symm, hbl⟩)
          | (exfalso
             rename_i h
             simp at h
             omega)
    · have hk' : k = s.size := by omega
      have Hp : Hid (pre s s.size) := by rw [← hk']; exact hall
      clear hk' hall
      go_wp2
      go_ret
      exact ⟨ret_bool (vall_true s Hp.out).symm, hbl⟩

theorem vn_zero (s : ByteArray) (h : s.size = 0) : vn s = false := by unfold vn; simp [h]
theorem vn_pos (s : ByteArray) (h : 0 < s.size) : vn s = vall s := by unfold vn; simp [h]

theorem validName_empty (s : ByteArray) (w : World) (h0 : s.size = 0) :
    Calls Try.prog 21 #[.string s] w fun e w' => e = .returned (.bool false) ∧ w' = w := by
  have hemp : (s.toList == []) = true := by
    rw [beq_iff_eq, ByteArray.toList_eq]
    rw [size_list] at h0
    exact List.eq_nil_of_length_eq_zero h0
  clear h0
  go_enter Try.func21, Try.ntmps21
  go_wp2
  go_ret
  exact ⟨rfl, rfl⟩

theorem zzValid (s : ByteArray) (w : World) (hs : s.size ≤ 1048576) :
    Calls Try.prog 12 #[.string s] w fun e w' => e = .returned (.bool (vn s)) ∧ Below w.heap.size w w' := by
  by_cases h0 : 0 < s.size
  · have he : Hid (vn s = vall s) := vn_pos s h0
    go_enter Try.func12, Try.ntmps12
    go_wp2_with (go_at_call 21; refine (validName_any s _ hs h0).mono ?_; rintro e w' ⟨rfl, hb⟩)
    go_ret
    exact ⟨ret_bool he.out.symm, hb⟩
  · have h1 : s.size = 0 := by omega
    have he : Hid (vn s = false) := vn_zero s h1
    have H1 : Hid (s.size = 0) := h1
    clear h1
    go_enter Try.func12, Try.ntmps12
    go_wp2_with (go_at_call 21; refine (validName_empty s _ H1.out).mono ?_; rintro e w' ⟨rfl, rfl⟩)
    go_ret
    exact ⟨ret_bool he.out.symm, Below.refl _ _⟩

theorem bytes10 (s : ByteArray) (w : World) (hs : (s.size : Int) ≤ 1048576) :
    Calls Try.prog 10 #[.string s] w fun e w' => e = .returned (.bool true) ∧ w' = w := by
  go_enter Try.func10, Try.ntmps10
  go_wp2
  go_ret
  exact ⟨rfl, rfl⟩

/-- what the law's loop knows behind k rounds -/
def st (s : ByteArray) (k : Nat) (b : Bool) : Prop := (b = true → 0 < s.size ∧ pre s k) ∧ (b = false → vn s = false)

theorem st_start (s : ByteArray) : st s 0 (decide (0 < s.size)) := by
  constructor
  · intro h
    exact ⟨by simpa using h, fun i hi => absurd hi (by omega)⟩
  · intro h
    exact vn_zero s (by simpa using h)

theorem st_end (s : ByteArray) (b : Bool) (h : st s s.size b) : vn s = b := by
  cases b with
  | true => obtain ⟨h0, hp⟩ := h.1 rfl; rw [vn_pos s h0]; exact vall_true s hp
  | false => exact h.2 rfl

theorem st_yes (s : ByteArray) (k : Nat) (h : st s k true) (e : vc (((s.data.toList.getD k 0).toNat : Nat) : Int) = true) : st s (k + 1) true :=
  ⟨fun _ => ⟨(h.1 rfl).1, pre_succ s k (h.1 rfl).2 e⟩, fun h => by cases h⟩

theorem st_no (s : ByteArray) (k : Nat) (hk : k < s.size) (e : vc (((s.data.toList.getD k 0).toNat : Nat) : Int) = false) (j : Nat) : st s j false :=
  ⟨fun h => (by cases h), fun _ => by rw [vn_pos s (by omega)]; exact vall_false s k hk e⟩
end Go.Proofs.Qxb6605547a.Vn
