import Derived.Test.Qxb6003612aAt2
namespace Go.Proofs.Qxb6003612a.At
open Go.ChangeShapes Go.WideShapes Go.ChangeAt Go.RowKit

/-- the zero attribute -/
def ZA.zero : ZA := ⟨⟨#[]⟩, 0, false, ⟨#[]⟩, false, false, ⟨#[]⟩, ⟨#[]⟩⟩

/-- the first of that name -/
def find (zs : List ZA) (q : ByteArray) : Option ZA := zs.find? fun z => z.nm.toList == q.toList

def noneTo (zs : List ZA) (q : ByteArray) (k : Nat) : Prop := ∀ (j : Nat) z, j < k → zs[j]? = some z → (z.nm.toList == q.toList) = false

theorem noneTo_succ {zs : List ZA} {q : ByteArray} {k : Nat} {z : ZA} (h : noneTo zs q k) (hz : zs[k]? = some z) (hq : (z.nm.toList == q.toList) = false) : noneTo zs q (k + 1) := by
  intro j y hj hy
  by_cases e : j = k
  · subst e; rw [hz] at hy; cases hy; exact hq
  · exact h j y (by omega) hy

theorem find_hit {zs : List ZA} {q : ByteArray} {k : Nat} {z : ZA} (h : noneTo zs q k) (hz : zs[k]? = some z) (hq : (z.nm.toList == q.toList) = true) : find zs q = some z := by
  unfold find
  rw [List.find?_eq_some_iff_getElem]
  refine ⟨hq, k, (List.getElem?_eq_some_iff.1 hz).1, (List.getElem?_eq_some_iff.1 hz).2, fun j hj => ?_⟩
  have := h j _ hj (List.getElem?_eq_getElem (Nat.lt_trans hj (List.getElem?_eq_some_iff.1 hz).1))
  simp [this]

theorem find_miss {zs : List ZA} {q : ByteArray} (h : noneTo zs q zs.length) : find zs q = none := by
  unfold find
  rw [List.find?_eq_none]
  intro x hx
  obtain ⟨i, hi, e⟩ := List.mem_iff_getElem.1 hx
  have := h i x hi (by rw [List.getElem?_eq_getElem hi, e])
  simp [this]

/-- what Attribute answers -/
def Answer (e : Ending) (o : Option ZA) : Prop := e = .returned (.tuple #[(o.getD ZA.zero).att, .bool o.isSome])

set_option maxHeartbeats 2000000 in
theorem attribute_any (mb g n : Nat) (q : ByteArray) (zs : List ZA) (w : World) (hM : Mod w mb g n zs) (hl : n ≤ 1048577) :
    Calls Try.prog 11 #[.pointer (some ⟨mb, 0, none⟩), .string q] w fun e w' => Answer e (find zs q) ∧ Below w.heap.size w w' := by
  obtain ⟨m4, hat, hgl, hn⟩ := hM
  have hml : mb < w.heap.size := cell_lt m4
  have HA := hide hat
  have HN := hide hn
  clear hat hn
  go_enter Try.func11, Try.ntmps11
  go_wp2
  have hb0 : Below w.heap.size w (w.alloc (.cells #[.string ⟨#[]⟩, .int .i64 0, .bool false, .string ⟨#[]⟩, .bool false, .pointer none, .bool false, .string ⟨#[]⟩, .string ⟨#[]⟩] 32)) := (Below.refl _ _).alloc (Nat.le_refl _) _
  have hR0 : At9 (w.alloc (.cells #[.string ⟨#[]⟩, .int .i64 0, .bool false, .string ⟨#[]⟩, .bool false, .pointer none, .bool false, .string ⟨#[]⟩, .string ⟨#[]⟩] 32)) w.heap.size 0 ZA.zero := ⟨by simp [ZA.zero], by simp [ZA.zero], by simp [ZA.zero], by simp [ZA.zero], by simp [ZA.zero], by simp, by simp [ZA.zero], by simp [ZA.zero], by simp [ZA.zero]⟩
  have hF0 : ∀ o, (w.alloc (.cells #[.string ⟨#[]⟩, .int .i64 0, .bool false, .string ⟨#[]⟩, .bool false, .pointer none, .bool false, .string ⟨#[]⟩, .string ⟨#[]⟩] 32)).frozen? ⟨w.heap.size, o, none⟩ = false := by intro o; simp
  have hs0 : (w.alloc (.cells #[.string ⟨#[]⟩, .int .i64 0, .bool false, .string ⟨#[]⟩, .bool false, .pointer none, .bool false, .string ⟨#[]⟩, .string ⟨#[]⟩] 32)).heap.size = w.heap.size + 1 := by simp
  generalize w.alloc (.cells #[.string ⟨#[]⟩, .int .i64 0, .bool false, .string ⟨#[]⟩, .bool false, .pointer none, .bool false, .string ⟨#[]⟩, .string ⟨#[]⟩] 32) = W0 at *
  have HR0 := hide hR0
  have HF0 := hide hF0
  clear hR0 hF0
  go_loopw [13] (fun iv wr => ∃ k : Nat, k ≤ n ∧ iv = .int .i64 k ∧ Hid (noneTo zs q k) ∧ Below (w.heap.size + 1) W0 wr) (fun iv _ => n - (intOf iv).toNat)
  case atStart => exact ⟨0, by omega, rfl, fun j z hj => absurd hj (by omega), Below.refl _ _⟩
  case round =>
    obtain ⟨k, hk, rfl, Hno, hb⟩ := hrel
    have hbw : Below w.heap.size w wr := hb0.trans (hb.mono (by omega))
    have hR := HR0.out.below hb (Nat.lt_succ_self _)
    have hF : ∀ o, wr.frozen? ⟨w.heap.size, o, none⟩ = false := fun o => (hb.frozen (p := ⟨w.heap.size, o, none⟩) (Nat.lt_succ_self _)).trans (HF0.out o)
    have hwr : w.heap.size < wr.heap.size := cell_lt hR.c0
    by_cases hlt : k < n
    · obtain ⟨z, hz⟩ := at_lt zs k n HN.out hlt
      have h9 := (HA.out k z hz).below hbw hgl
      have hgr : g < wr.heap.size := cell_lt h9.c0
      obtain ⟨c0, c1, c2, c3, c4, c5, c6, c7, c8⟩ := h9
      by_cases hq : (z.nm.toList == q.toList) = true
      · have Hf := hide (find_hit Hno.out hz hq)
        obtain ⟨r0, r1, r2, r3, r4, r5, r6, r7, r8⟩ := hR
        clear hz
        go_wp2
        refine bodyPost_ret (v := .tuple #[.agg #[.string z.nm, .int .i64 z.sc, .bool z.li, .string z.de, .bool z.ge, .pointer none, .bool z.un, .string z.pw, .string z.mi], .bool true]) (by simp [results, Try.results11, go_sem, r0, r1, r2, r3, r4, r5, r6, r7, r8, hwr]) rfl ⟨?_, ?_⟩
        · rw [Hf.out]; rfl
        · have hp := puts_below (Nat.le_refl w.heap.size) z.ac w wr 0 hbw
          exact hp.alloc hp.size _
      · have hq' : (z.nm.toList == q.toList) = false := by simpa using hq
        have Hn' := hide (noneTo_succ Hno.out hz hq')
        clear hz hq hR
        go_wp2
        go_roundw
        case rel => exact ⟨k + 1, by omega, by go_num, Hn', hb.alloc (by omega) _⟩
        case measure => simp [intOf]; omega
    · have hk0 : k = n := by omega
      have Hf := hide (find_miss (zs := zs) (q := q) (by rw [HN.out, ← hk0]; exact Hno.out))
      obtain ⟨r0, r1, r2, r3, r4, r5, r6, r7, r8⟩ := hR
      clear hk0
      go_wp2
      refine bodyPost_ret (v := .tuple #[.agg #[.string ⟨#[]⟩, .int .i64 0, .bool false, .string ⟨#[]⟩, .bool false, .pointer none, .bool false, .string ⟨#[]⟩, .string ⟨#[]⟩], .bool false]) (by simp [results, Try.results11, go_sem, r0, r1, r2, r3, r4, r5, r6, r7, r8]) rfl ⟨?_, ?_⟩
      · rw [Hf.out]; rfl
      · exact puts_below (Nat.le_refl w.heap.size) ZA.zero.ac w wr 0 hbw
end Go.Proofs.Qxb6003612a.At
