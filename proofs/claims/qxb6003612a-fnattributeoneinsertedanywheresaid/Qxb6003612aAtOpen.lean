import Derived.Test.Qxb6003612aAt2
import Derived.Deep.Slices
namespace Go.Proofs.Qxb6003612a.At
open Go.ChangeShapes Go.WideShapes Go.ChangeAt Go.RowKit

theorem cells36 : Try.prog.cellsOf 36 = 8 := by kernel_rfl
theorem cells9 : Try.prog.cellsOf 9 = 1 := by kernel_rfl
theorem cells3 : Try.prog.cellsOf 3 = 1 := by kernel_rfl
theorem cells4 : Try.prog.cellsOf 4 = 1 := by kernel_rfl

theorem eight {α : Type} {l : List α} (h : l.length = 8) : ∃ a b c d e f g i, l = [a, b, c, d, e, f, g, i] := by
  match l, h with
  | [a, b, c, d, e, f, g, i], _ => exact ⟨a, b, c, d, e, f, g, i, rfl⟩

/-- no string of it is longer than the model lets one be -/
def ZA.ok (z : ZA) : Prop := z.nm.size ≤ maxLen ∧ z.de.size ≤ maxLen ∧ z.pw.size ≤ maxLen ∧ z.mi.size ≤ maxLen

section
variable {H : Type} {enc : TypeId × Value → H} {W : World} {base : Nat} {spare : Nat → Bool} {held : Bool}

theorem trod36 {fuel : Nat} {cs : List Value} {x : DataW H × List MemPlace} (h : DataW.trod enc Try.prog W base spare held fuel 36 cs = some x) : ∃ z : ZA, cs = z.cs ∧ z.ok := by
  obtain ⟨xs, n, _, rfl, hl, hlen, hf⟩ := DataW.trod_struct Try.underlying36 h
  rw [cells36] at hl
  obtain ⟨a, b, c, d, e, f, g, i, rfl⟩ := eight hl
  obtain ⟨x0, x1, x2, x3, x4, x5, x6, x7, rfl⟩ := eight hlen
  have h0 : DataW.trod enc Try.prog W base spare held n 9 [a] = some x0 := by simpa [cells9] using hf 0 _ rfl
  have h1 : DataW.trod enc Try.prog W base spare held n 3 [b] = some x1 := by simpa [cells3] using hf 1 _ rfl
  have h2 : DataW.trod enc Try.prog W base spare held n 4 [c] = some x2 := by simpa [cells4] using hf 2 _ rfl
  have h3 : DataW.trod enc Try.prog W base spare held n 9 [d] = some x3 := by simpa [cells9] using hf 3 _ rfl
  have h4 : DataW.trod enc Try.prog W base spare held n 4 [e] = some x4 := by simpa [cells4] using hf 4 _ rfl
  have h5 : DataW.trod enc Try.prog W base spare held n 4 [f] = some x5 := by simpa [cells4] using hf 5 _ rfl
  have h6 : DataW.trod enc Try.prog W base spare held n 9 [g] = some x6 := by simpa [cells9] using hf 6 _ rfl
  have h7 : DataW.trod enc Try.prog W base spare held n 9 [i] = some x7 := by simpa [cells9] using hf 7 _ rfl
  obtain ⟨s0, e0, _, k0⟩ := DataW.trod_string Try.underlying9 h0
  obtain ⟨s1, e1, _, _⟩ := DataW.trod_int Try.underlying3 h1
  obtain ⟨s2, e2, _⟩ := DataW.trod_bool Try.underlying4 h2
  obtain ⟨s3, e3, _, k3⟩ := DataW.trod_string Try.underlying9 h3
  obtain ⟨s4, e4, _⟩ := DataW.trod_bool Try.underlying4 h4
  obtain ⟨s5, e5, _⟩ := DataW.trod_bool Try.underlying4 h5
  obtain ⟨s6, e6, _, k6⟩ := DataW.trod_string Try.underlying9 h6
  obtain ⟨s7, e7, _, k7⟩ := DataW.trod_string Try.underlying9 h7
  simp only [List.cons.injEq, and_true] at e0 e1 e2 e3 e4 e5 e6 e7
  subst e0 e1 e2 e3 e4 e5 e6 e7
  exact ⟨⟨s0, s1, s2, s3, s4, s5, s6, s7⟩, rfl, k0, k3, k6, k7⟩

/-- the cells of one element, read off the row -/
theorem at8_of {b off k : Nat} {z : ZA} (h : W.cells? base ((⟨b, off, none⟩ : Addr).add (k * 8)) 8 = some z.cs) : At8 W b (off + k * 8) z := by
  rw [Addr.add_lit] at h
  have key := (World.cells?_some h).2.2
  have k0 := key 0 (by omega)
  have k1 := key 1 (by omega)
  have k2 := key 2 (by omega)
  have k3 := key 3 (by omega)
  have k4 := key 4 (by omega)
  have k5 := key 5 (by omega)
  have k6 := key 6 (by omega)
  have k7 := key 7 (by omega)
  simp only [Addr.add_lit] at k0 k1 k2 k3 k4 k5 k6 k7
  exact ⟨k0, k1, k2, k3, k4, k5, k6, k7⟩

/-- a slice of attributes that came in -/
theorem open_attrs {a : Option Addr} {len cap : Nat} {d : DataW H} {p : List MemPlace}
    (h : DataW.Trod enc Try.prog W base spare held 22 (.slice a len cap) d p) : ∃ zs : List ZA, Attrs W a zs ∧ zs.length = len ∧ len ≤ maxLen ∧ ∀ z ∈ zs, z.ok := by
  obtain ⟨fuel, hf⟩ := h
  rcases Deep.open_slice Try.underlying22 hf with ⟨hcs, _⟩ | ⟨x, l, c, m, n, D, Pl, hcs, _, hl, hm, hmm, _, hel⟩
  · simp [Value.cells] at hcs
    obtain ⟨rfl, rfl, rfl⟩ := hcs
    exact ⟨[], fun k x h => by simp at h, rfl, Nat.zero_le _, fun x h => by simp at h⟩
  · simp [Value.cells] at hcs
    obtain ⟨rfl, rfl, rfl⟩ := hcs
    rw [cells36] at hel
    have hlm : len ≤ m := by rw [hmm]; split <;> omega
    have hch : ∀ i, i < len → ∃ z : ZA, W.cells? base (x.add (i * 8)) 8 = some z.cs ∧ z.ok := by
      intro i hi
      obtain ⟨cs', h1, h2⟩ := hel i (by omega)
      obtain ⟨z, rfl, hok⟩ := trod36 h2
      exact ⟨z, h1, hok⟩
    have hex : ∀ n, n ≤ len → ∃ zs : List ZA, zs.length = n ∧ ∀ i z, zs[i]? = some z → W.cells? base (x.add (i * 8)) 8 = some z.cs ∧ z.ok := by
      intro n
      induction n with
      | zero => exact fun _ => ⟨[], rfl, fun i z h => by simp at h⟩
      | succ n ih =>
        intro hn
        obtain ⟨zs, hzl, hzs⟩ := ih (by omega)
        obtain ⟨z, hz1, hz2⟩ := hch n (by omega)
        refine ⟨zs ++ [z], by simp [hzl], fun i y hy => ?_⟩
        by_cases hi : i < n
        · rw [List.getElem?_append_left (by omega)] at hy
          exact hzs i y hy
        · rw [List.getElem?_append_right (by omega)] at hy
          have hin : i - zs.length = 0 := by
            by_cases h0 : i - zs.length = 0
            · exact h0
            · rw [List.getElem?_eq_none (by simp; omega)] at hy; cases hy
          rw [hin] at hy
          simp at hy
          subst hy
          have : i = n := by omega
          subst this
          exact ⟨hz1, hz2⟩
    obtain ⟨zs, hzl, hzs⟩ := hex len (Nat.le_refl _)
    refine ⟨zs, fun k z hz => ?_, hzl, Nat.le_trans hl hm, fun z hz => ?_⟩
    · obtain ⟨h1, _⟩ := hzs k z hz
      have h0 : 0 < len := by
        have := (List.getElem?_eq_some_iff.1 hz).1
        omega
      obtain ⟨z0, hz0, _⟩ := hch 0 h0
      rw [Nat.zero_mul] at hz0
      have hc0 := (World.cells?_some hz0).2.2 0 (by omega)
      obtain ⟨b, off, spot⟩ := x
      have hspot : spot = none := by
        have h2 : W.cell? ⟨b, off, spot⟩ = some (.string z0.nm) := by simpa [Addr.add, ZA.cs] using hc0
        exact World.cell?_spot h2
      subst hspot
      exact ⟨b, off, rfl, at8_of h1⟩
    · obtain ⟨i, hi⟩ := List.getElem?_of_mem hz
      exact (hzs i z hi).2

/-- one attribute by value -/
theorem open_za {v : Value} {r : Reach} {b0 : Nat} {d : DataW H} {p : List MemPlace} (hv : Value.okWide Try.prog W r b0 36 v)
    (h : DataW.Trod enc Try.prog W base spare held 36 v d p) : ∃ z : ZA, v = z.val ∧ z.ok := by
  obtain ⟨cs, rfl, hsz⟩ := okWide_struct Try.underlying36 hv
  obtain ⟨fuel, hf⟩ := h
  obtain ⟨z, hz, hok⟩ := trod36 hf
  refine ⟨z, ?_, hok⟩
  simp [Value.cells] at hz
  unfold ZA.val
  congr 1
  apply Array.ext'
  rw [hz]; rfl
end
end Go.Proofs.Qxb6003612a.At
