import Derived.Test.Qxb6605547aRows
import Derived.WalkKit
import Derived.ProofKit
import Derived.OpenShut
import Derived.ShutString
import Derived.Test.Qxb6605547aVn
import Derived.ChangeOld
import Derived.Below
namespace Go.Proofs.Qxb6605547a.fnValidNameAlphabet
open Go.ChangeShapes Go.WideShapes Go.ChangeAt Go.RowKit
open Go.ChangeMaps (open_string shut_string)
set_option linter.unusedVariables false

theorem own : ownKnob Try.prog.godebug = none := by kernel_rfl

theorem laidOut : laidOutB Try.prog = true := by kernel_rfl

theorem ret_bool {a : Bool} (h : a = true) : Ending.returned (.bool a) = .returned (.bool true) := by rw [h]

set_option maxHeartbeats 400000 in
theorem walk (a0 : ByteArray) (w0 : a0.size ≤ maxLen) (w : World) :
    Calls Try.prog 5 #[.string a0] w fun e w' => e = .returned (.bool true) ∧ Below w.heap.size w w' := by
  unfold maxLen at w0
  by_cases hbig : (1048576 : Int) < a0.size
  · go_enter Try.func5, Try.ntmps5
    go_wp2
    go_ret
    exact ⟨rfl, Below.refl _ _⟩
  · have hs : a0.size ≤ 1048576 := by omega
    go_enter Try.func5, Try.ntmps5
    go_wp2_with (go_at_call 10; refine (Vn.bytes10 _ _ (by omega)).mono ?_; rintro e w' ⟨rfl, rfl⟩)
    go_loop [3, 4] (fun want i => ∃ (k : Nat) (b : Bool), k ≤ a0.size ∧ i = .int .i64 k ∧ want = .bool b ∧ Hid (Vn.st a0 k b)) (fun _ i => a0.size - (intOf i).toNat)
    case atStart => exact ⟨0, _, by omega, rfl, rfl, Vn.st_start a0⟩
    case round =>
      obtain ⟨k, b, hk, rfl, rfl, hst⟩ := hrel
      by_cases hlt : k < a0.size
      · cases b with
        | false =>
          have He : Hid (Vn.vn a0 = false) := hst.2 rfl
          clear hst
          go_wp2_with (go_at_call 12; refine (Vn.zzValid a0 _ hs).mono ?_; rintro e w1 ⟨rfl, hb1⟩)
          go_ret
          exact ⟨ret_bool (by rw [He.out]; rfl), hb1⟩
        | true =>
          have hg : Hid (a0[k] = a0.data.toList.getD k 0) := Vn.get_list a0 k hlt
          by_cases hv : Vn.vc (((a0[k] : UInt8).toNat : Nat) : Int) = true
          · have Hs : Hid (Vn.st a0 (k + 1) true) := Vn.st_yes a0 k hst (by rw [← hg.out]; exact hv)
            clear hg hst
            go_wp2_with (go_at_call 11; refine (Vn.inAlphabet_any _ _).mono ?_; rintro e w1 ⟨rfl, rfl⟩)
            go_round
            case rel => exact ⟨k + 1, true, by omega, by go_num, rfl, Hs⟩
            case measure => simp [intOf]; omega
          · have hv' : Vn.vc (((a0[k] : UInt8).toNat : Nat) : Int) = false := by simpa using hv
            have Hs : Hid (Vn.st a0 (k + 1) false) := Vn.st_no a0 k hlt (by rw [← hg.out]; exact hv') _
            clear hg hst hv
            go_wp2_with (go_at_call 11; refine (Vn.inAlphabet_any _ _).mono ?_; rintro e w1 ⟨rfl, rfl⟩)
            go_round
            case rel => exact ⟨k + 1, false, by omega, by go_num, rfl, Hs⟩
            case measure => simp [intOf]; omega
      · have hk' : k = a0.size := by omega
        have He : Hid (Vn.vn a0 = b) := Vn.st_end a0 b (by rw [← hk']; exact hst)
        clear hst hk'
        go_wp2_with (go_at_call 12; refine (Vn.zzValid a0 _ hs).mono ?_; rintro e w1 ⟨rfl, hb1⟩)
        go_ret
        exact ⟨ret_bool (by rw [He.out]; cases b <;> rfl), hb1⟩

set_option maxRecDepth 100000 in
theorem lifted (os : Os) (started : os.Started) (H : Type) (enc : TypeId × Value → H) :
    ReturnsInHanded {} Try.checked os 5 .any (Rows.fnValidNameAlphabetSpec.pre6 enc Try.prog Try.f5 Rows.fnValidNameAlphabetRow.domain false) (Rows.fnValidNameAlphabetSpec.post enc Try.prog Try.f5 false true false false) := by
  refine returnsInHanded_of_change (C := Try.checked) own started (by kernel_rfl) Try.func5
    (ChangeSpec.witness6 (enc := enc) (C := Try.checked) false ⟨#[], #[.string ByteArray.empty], []⟩ 8 (by kernel_rfl) (by kernel_rfl) (by kernel_rfl) (by kernel_rfl)) ?_
  intro W base args ds gs before hval0 hW hcnd _
  have hval : ∀ (j : Nat) t v, Try.f5.params[j]? = some t → args[j]? = some v → Value.okWide Try.prog W .any base t v := hval0
  have hW' := hW
  obtain ⟨p, q, hA0, hV, rfl, hfz, hnd⟩ := hW
  have hA : DataW.TrodAll enc Try.prog W 0 (fun _ => true) true Try.f5.params.toList args.toList ds p := hA0
  rw [Try.params5] at hA hval
  obtain ⟨v0, vs0, d0, ds0, p0, q0, hargs, rfl, rfl, h0, r0⟩ := trodAll_cons hA
  obtain ⟨rfl, rfl, rfl⟩ := trodAll_nil r0
  obtain rfl : args = #[v0] := by cases args; simp_all
  obtain ⟨rfl, rfl⟩ := trodVars_none hV
  obtain ⟨a0, rfl, rfl, rfl, w0⟩ := open_string Try.underlying9 (hval 0 9 v0 rfl rfl) h0
  clear hA0 hval0
  simp only [List.append_nil] at hW'
  refine (walk a0 w0 W).mono fun e W' ⟨he, hg⟩ => ?_
  subst he
  exact ⟨_, rfl, _, _, _, [], _, [], hW', trodAll_mk1 (shut_bool Try.underlying4 _), (trodAll_cons_mk (shut_string Try.underlying9 w0) trodAll_mk0), rfl, hg.frame _, fun h => by cases h⟩

theorem over : Rows.fnValidNameAlphabetRow.holds Try.pinned (OpenSpec.ofChange Rows.fnValidNameAlphabetSpec) :=
  OpenClaim.holds_of_wide 5 Try.f5 rfl rfl rfl rfl rfl rfl rfl ⟨rfl, rfl, rfl, rfl, rfl⟩ rfl rfl rfl rfl rfl (by kernel_rfl) Try.func5 (by kernel_rfl)
    (of_decide_eq_true (by kernel_rfl)) (by unfold Func.isWrapper; first | (rw [if_pos (by decide +kernel)]; kernel_rfl) | (rw [if_neg (by decide +kernel)]; exact ⟨rfl, rfl⟩))
    (fun os started H enc _ => lifted os started H enc)

theorem proved : Rows.FnValidNameAlphabetSaid :=
  over
end Go.Proofs.Qxb6605547a.fnValidNameAlphabet
