import Derived.Test.Qxb6605547aEx3
import Derived.Lib.AppendStr
import Derived.Laws.IdiomStrings
namespace Go.Proofs.Qxb6605547a.Ex
open Go.ChangeShapes Go.WideShapes Go.ChangeAt Go.RowKit

theorem info5 : (Try.prog.info? 5).map (fun i => (i.zero, i.size, i.bytes)) = some (some (.int .u8 0), 1, 1) := by kernel_rfl

/-- what restOf has gathered behind m rounds -/
def acc (xs : List ByteArray) (f m : Nat) : List UInt8 := Lib.joinTail [47] (((xs.drop f).map (·.data.toList)).take m)

theorem acc_zero (xs : List ByteArray) (f : Nat) : acc xs f 0 = [] := by unfold acc; rw [List.take_zero]; rfl

theorem acc_succ (xs : List ByteArray) (f m : Nat) (x : ByteArray) (h : xs[f + m]? = some x) : acc xs f (m + 1) = acc xs f m ++ [47] ++ x.data.toList := by
  unfold acc
  exact Lib.joinTail_take_succ [47] _ m _ (by rw [List.getElem?_map, List.getElem?_drop, h]; rfl)

theorem acc_cells (xs : List ByteArray) (f m : Nat) (x : ByteArray) (h : xs[f + m]? = some x) :
    Lib.byteCells (acc xs f (m + 1)) = Lib.byteCells (acc xs f m) ++ [Value.int .u8 47] ++ Lib.strCells x := by
  rw [acc_succ xs f m x h, Lib.byteCells_append, Lib.byteCells_append, Lib.strCells_eq]; rfl

theorem acc_len (xs : List ByteArray) (f m : Nat) : (acc xs f m).length ≤ xs.length + tot xs := by
  have h1 := Lib.joinTail_take_le [47] ((xs.drop f).map (·.data.toList)) m
  have h2 := Lib.joinTail_length [47] ((xs.drop f).map (·.data.toList))
  rw [lens_tot] at h2
  have h3 := tot_drop_le xs f
  have h4 : ((xs.drop f).map (·.data.toList)).length ≤ xs.length := by simp
  unfold acc
  simp only [List.length_cons, List.length_nil] at h2
  omega

theorem acc_all (xs : List ByteArray) (f m n : Nat) (hn : xs.length = n) (hm : f + m = n) : restL xs f = (acc xs f m).drop 1 := by
  unfold acc restL
  have hl : ((xs.drop f).map (·.data.toList)).length = m := by rw [List.length_map, List.length_drop]; omega
  rw [List.take_of_length_le (by omega)]
  cases (xs.drop f).map (·.data.toList) with
  | nil => rfl
  | cons y ys => rw [Lib.join_cons]; simp [Lib.joinTail]

theorem bytes_ret {l m : List UInt8} (h : l = m) : Ending.returned (.string ⟨l.toArray⟩) = .returned (.string ⟨m.toArray⟩) := by rw [h]

set_option maxHeartbeats 1000000 in
theorem restOf_any (a : Option Addr) (n cap : Nat) (f : Nat) (xs : List ByteArray) (w : World) (hS : Strs w a xs) (hn : xs.length = n) (hl : n ≤ 1048576) (ht : tot xs ≤ 1048576) (hf1 : f ≤ n) :
    Calls Try.prog 19 #[.slice a n cap, .int .i64 f] w fun e w' => e = .returned (.string ⟨(restL xs f).toArray⟩) ∧ Below w.heap.size w w' := by
  obtain ⟨i0, hi, hz0, hz1, hz2⟩ := info_parts info5
  have HS := hide hS
  have Hn := hide hn
  have Hi := hide hi
  have Hz0 := hide hz0
  have Hz1 := hide hz1
  have Hz2 := hide hz2
  clear hS hn hi hz0 hz1 hz2
  go_enter Try.func19, Try.ntmps19
  go_wp2
  go_loopw [5, 6] (fun v i wr => ∃ m : Nat, f + m ≤ n ∧ i = .int .i64 ((f : Int) + (m : Int)) ∧ wr.ownsRow w.heap.size 5 1 v (Lib.byteCells (acc xs f m)).length (Lib.byteCells (acc xs f m)) ∧ Below w.heap.size w wr) (fun _ i _ => n - (intOf i).toNat)
  case atStart => exact ⟨0, by omega, by go_num, by rw [acc_zero]; exact World.ownsRow_nil _ _ _ _, Below.refl _ _⟩
  case round =>
    obtain ⟨m, hm, rfl, hown, hb⟩ := hrel
    have hlen := acc_len xs f m
    rw [Hn.out] at hlen
    have hcl := Lib.byteCells_length (acc xs f m)
    by_cases hlt : f + m < n
    · obtain ⟨x, hx⟩ := at_lt xs (f + m) n Hn.out hlt
      have hxs := size_le xs _ x hx
      obtain ⟨bk, off, rfl, hc⟩ := HS.out (f + m) x hx
      have hcell := fun W (hW : Below w.heap.size w W) => (hW.cell (p := ⟨bk, off + (f + m), none⟩) (cell_lt hc)).trans hc
      have Hcell := hide hcell
      have Hac := hide (acc_cells xs f m x hx)
      have HL : Hid ((Lib.byteCells (acc xs f m)).length ≤ 2097152) := by unfold Hid; omega
      have hlt1 : (f : Int) + (m : Int) < n := by omega
      have hsz := hb.size
      clear hcell hx hc hlen hcl
      generalize Lib.byteCells (acc xs f m) = cs at *
      go_wp2_with (at_builtin; refine wpList_append_own _ rfl (.tmp 14) (.tmp 15) 47 rfl w.heap.size 5 i0 (.int .u8 0) 1 1 Try.underlying47 Hi.out Hz0.out Hz1.out Hz2.out rfl (by decide) _ _ _ rfl (hown.alloc _) ⟨wr.heap.size, 0, none⟩ 1 1 [.int .u8 47] rfl rfl ?c1 ?c2 ?c3 ?c4 ?c5 ?_)
      case c1 =>
        intro j u hj
        match j, hj with
        | 0, hj => simp at hj; subst hj; simp [Addr.add]
      case c2 => intro u hu; simp at hu; subst hu; rfl
      case c3 => have := HL.out; unfold maxLen; omega
      case c4 => have := HL.out; omega
      case c5 => simp; omega
      intro v1 w1 hown1 hgrow1 _
      have hb1 : Below w.heap.size w w1 := (hb.alloc hsz _).grown hgrow1 (by simp; omega) (fun k hk => (hown.lt k hk).1)
      have hc1 := Hcell.out w1 hb1
      have hsz1 := hb1.size
      clear hgrow1 hown
      go_wp2_with (at_builtin; refine Lib.wpList_append_own_string _ rfl (.tmp 17) (.tmp 21) 47 9 rfl w.heap.size 5 i0 Try.underlying47 Try.underlying9 Hi.out Hz0.out Hz1.out Hz2.out _ _ _ rfl hown1 x rfl ?d3 ?d4 hsz1 ?_)
      case d3 => have := HL.out; unfold maxLen; omega
      case d4 => have := HL.out; omega
      intro v2 w2 hown2 hgrow2 _
      have hb2 : Below w.heap.size w w2 := hb1.grown hgrow2 hsz1 (fun k hk => (hown1.lt k hk).1)
      clear hgrow2 hown1
      go_wp2
      go_roundw
      case rel =>
        refine ⟨m + 1, by omega, by go_num, ?_, hb2⟩
        rw [Hac.out]
        have e : (cs ++ [Value.int .u8 47] ++ Lib.strCells x).length = cs.length + 1 + x.size := by
          rw [List.length_append, List.length_append, Lib.strCells_length]; rfl
        rw [e, List.append_assoc]; exact hown2
      case measure => simp [intOf]; omega
    · have hfm : f + m = n := by omega
      have Hr := hide (acc_all xs f m n Hn.out hfm)
      have hge : (n : Int) ≤ (f : Int) + (m : Int) := by omega
      clear hlt hfm
      generalize acc xs f m = l at *
      rw [hcl] at hown
      rcases hown.2 with ⟨hv, h0⟩ | ⟨g, c, cur, hv, hBg, hg, hnc, hcm, hcs, htake⟩
      · have hl0 : l = [] := List.eq_nil_of_length_eq_zero h0
        subst hl0
        subst hv
        clear hown h0 hlen hcl
        go_wp2
        go_ret
        exact ⟨bytes_ret Hr.out.symm, hb⟩
      · subst hv
        cases l with
        | nil =>
          clear hown hlen hcl
          go_wp2
          go_ret
          exact ⟨bytes_ret Hr.out.symm, hb⟩
        | cons y ys =>
          have hcells : ∀ j (hj : j < ys.length), wr.cell? ((⟨g, 1, none⟩ : Addr).add j) = some (.int .u8 (ys[j].toNat : Int)) := by
            intro j hj
            have h1 := hown.cellAt (1 + j) (by simp; omega)
            rw [show (⟨g, 1, none⟩ : Addr).add j = ⟨g, 1 + j, none⟩ by simp [Addr.add]]
            rw [h1, Nat.add_comm 1 j]
            simp [Lib.byteCells, List.getElem?_eq_getElem hj]
          have hc1 : (1 : Int) ≤ c := by simp at hnc; omega
          have hyl : (ys.length : Int) ≤ 4194304 := by simp at hlen; omega
          cases ys with
          | nil =>
            have hconv := fun (ad : Addr) (cp : Nat) => run_convert_bytes_back (P := Try.prog) wr 47 9 5 ad cp [] Try.underlying47 Try.underlying5 Try.underlying9 (fun j hj => by simp at hj)
            simp only [List.length_nil] at hconv
            clear hcells hown hg hlen hcl hnc hcs htake
            go_wp2
            all_goals
              go_ret
              exact ⟨bytes_ret Hr.out.symm, hb⟩
          | cons y2 ys =>
            have hconv := run_convert_bytes_back (P := Try.prog) wr 47 9 5 ⟨g, 1, none⟩ (c - 1) (y2 :: ys) Try.underlying47 Try.underlying5 Try.underlying9 hcells
            have hc2 : ¬ c = 1 := by simp at hnc; omega
            clear hcells hown hg hlen hcl hnc hcs htake
            have Hq : ∃ q, Hid (q = (y2 :: ys).length) := ⟨_, rfl⟩
            obtain ⟨q, Hq⟩ := Hq
            have e1 : (y :: y2 :: ys).length = q + 1 := by rw [Hq.out]; rfl
            rw [← Hq.out] at hconv hyl
            rw [e1]
            clear e1
            generalize y2 :: ys = l2 at *
            go_wp2
            go_ret
            exact ⟨bytes_ret Hr.out.symm, hb⟩
end Go.Proofs.Qxb6605547a.Ex
