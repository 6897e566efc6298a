import Derived.Test.Qxb6605547aEx2
import Derived.Test.Qxb6605547aShelf
namespace Go.Proofs.Qxb6605547a.Ex
open Go.ChangeShapes Go.WideShapes Go.ChangeAt Go.RowKit

/-- the rest: the segments from f on, joined by slashes -/
def restL (xs : List ByteArray) (f : Nat) : List UInt8 := Lib.join ((xs.drop f).map (·.data.toList)) [47]

theorem joinAt (bk o c m : Nat) (ys : List ByteArray) (l : List UInt8) (w : World) (hj : Lib.join (ys.map (·.data.toList)) [47] = l) (hm : ys.length = m) (hcells : ∀ (j : Nat) x, ys[j]? = some x → w.cell? ⟨bk, o + j, none⟩ = some (.string x)) (hbk : bk < w.heap.size) (hN : m ≤ 140737488355328) (hcap : m ≤ c)
    (hlen : l.length ≤ 140737488355328) :
    Calls Try.prog 31 #[.slice (some ⟨bk, o, none⟩) m c, .string ⟨#[47]⟩] w fun e w' => e = .returned (.string ⟨l.toArray⟩) ∧ Below w.heap.size w w' := by
  subst hm
  subst hj
  exact joinSome bk o c ys ⟨#[47]⟩ w hcells hbk hN hcap hlen

theorem lens_tot (xs : List ByteArray) : Lib.lens (xs.map (·.data.toList)) = tot xs := by
  unfold Lib.lens tot
  rw [List.map_map]
  congr 1

theorem tot_drop_le (xs : List ByteArray) (k : Nat) : tot (xs.drop k) ≤ tot xs := by
  have e : tot xs = tot (xs.take k) + tot (xs.drop k) := by
    unfold tot
    rw [← List.sum_append, ← List.map_append, List.take_append_drop]
  omega

theorem restL_length (xs : List ByteArray) (f : Nat) : (restL xs f).length ≤ xs.length + tot xs := by
  unfold restL
  have h := tot_drop_le xs f
  have hl : (xs.drop f).length ≤ xs.length := by simp
  revert h hl
  generalize xs.drop f = ys
  intro h hl
  cases ys with
  | nil => simp [Lib.join_nil]
  | cons y ys =>
    have e := lens_tot (y :: ys)
    rw [List.map_cons] at e ⊢
    rw [Lib.join_length, e]
    simp at hl ⊢
    omega

set_option maxHeartbeats 400000 in
theorem rest_any (a a5 : Option Addr) (n cap n5 c5 : Nat) (f : Nat) (xs : List ByteArray) (w : World) (hS : Strs w a xs) (hn : xs.length = n) (hcap : n ≤ cap) (hl : n ≤ 1048576) (ht : tot xs ≤ 1048576) (hf1 : f ≤ n) :
    Calls Try.prog 27 #[.agg #[.slice a n cap, .slice a5 n5 c5], .int .i64 f] w fun e w' => e = .returned (.string ⟨(restL xs f).toArray⟩) ∧ Below w.heap.size w w' := by
  have hlen := restL_length xs f
  by_cases hlt : f < n
  · obtain ⟨x, hx⟩ := at_lt xs f n hn hlt
    obtain ⟨bk, off, rfl, hc⟩ := hS f x hx
    have hcells : ∀ (j : Nat) y, (xs.drop f)[j]? = some y → w.cell? ⟨bk, (off + f) + j, none⟩ = some (.string y) := by
      intro j y hy
      rw [List.getElem?_drop] at hy
      obtain ⟨bk', off', h1, h2⟩ := hS (f + j) y hy
      have h3 := Option.some.inj h1
      simp only [Addr.mk.injEq, and_true] at h3
      obtain ⟨rfl, rfl⟩ := h3
      rw [Nat.add_assoc]; exact h2
    have hbk := cell_lt hc
    have hm : (xs.drop f).length = n - f := by rw [List.length_drop, hn]
    have Hm := hide hm
    have Hc := hide hcells
    have Hl := hide hlen
    have Hn := hide hn
    clear hcells hm hlen hc hx hS hn
    go_enter Try.func27, Try.ntmps27
    go_wp2_with fail
    refine (joinAt bk (off + f) (cap - f) (n - f) (xs.drop f) (restL xs f) _ rfl Hm.out ?hc ?hb (by omega) (by omega) ?hl).mono ?_
    case hc =>
      intro j y hy
      have h := Hc.out j y hy
      rw [(Below.alloc (Below.refl w.heap.size w) (Nat.le_refl _) _).cell (p := ⟨bk, off + f + j, none⟩) hbk]
      exact h
    case hb => simp; omega
    case hl => have := Hl.out; have := Hn.out; omega
    rintro e w1 ⟨rfl, hb⟩
    go_wp2
    go_ret
    exact ⟨rfl, (Below.alloc (Below.refl w.heap.size w) (Nat.le_refl _) _).trans (hb.mono (by simp))⟩
  · have hfn : f = n := by omega
    subst hfn
    have hr : restL xs f = [] := by unfold restL; rw [List.drop_of_length_le (by omega)]; rfl
    have Hr := hide hr
    clear hr hlen hS
    have Hn := hide hn
    clear hn
    go_enter Try.func27, Try.ntmps27
    go_wp2
    all_goals
      go_ret
      exact ⟨by rw [Hr.out]; rfl, Below.alloc (Below.refl w.heap.size w) (Nat.le_refl _) _⟩
end Go.Proofs.Qxb6605547a.Ex
