import Derived.Test.Qxb6003612aRows
import Derived.WalkKit
import Derived.ProofKit
import Derived.OpenShut
import Derived.ShutString
import Derived.Outline
import Derived.WalkSpells
import Derived.WalkLawsBesides
import Derived.Below
import Derived.RegionTactic
import Derived.Deep.RegionHeld3
namespace Go.Proofs.Qxb6003612a.Rev
open Go.ChangeShapes Go.WideShapes Go.ChangeAt Go.RowKit

theorem hide {p : Prop} (h : p) : Hid p := h

theorem cell_lt {w : World} {a : Addr} {v : Value} (h : w.cell? a = some v) : a.block < w.heap.size := by
  unfold World.cell? at h
  by_cases hb : a.block < w.heap.size
  · exact hb
  · rw [Array.getElem?_eq_none (by omega)] at h
    simp at h

/-- an association as it lies in memory -/
structure Assoc (w : World) (b : Nat) (name : ByteArray) (typ : Int) (src tgt : Option Addr) (keys : Int) (kin : Option Addr) (tk sk rev lab sub : ByteArray) : Prop where
  c0 : w.cell? ⟨b, 0, none⟩ = some (.string name)
  c1 : w.cell? ⟨b, 1, none⟩ = some (.int .i64 typ)
  c2 : w.cell? ⟨b, 2, none⟩ = some (.pointer src)
  c3 : w.cell? ⟨b, 3, none⟩ = some (.pointer tgt)
  c4 : w.cell? ⟨b, 4, none⟩ = some (.int .i64 keys)
  c5 : w.cell? ⟨b, 5, none⟩ = some (.pointer kin)
  c6 : w.cell? ⟨b, 6, none⟩ = some (.string tk)
  c7 : w.cell? ⟨b, 7, none⟩ = some (.string sk)
  c8 : w.cell? ⟨b, 8, none⟩ = some (.string rev)
  c9 : w.cell? ⟨b, 9, none⟩ = some (.string lab)
  c10 : w.cell? ⟨b, 10, none⟩ = some (.string sub)

/-- the reversal's fields -/
def rtyp (t : Int) : Int := if t = 3 then 2 else if t = 2 then 3 else t
def rkeys (k : Int) : Int := if k = 1 then 2 else if k = 2 then 1 else k
def rkin (k : Int) (kin tgt : Option Addr) : Option Addr := if k = 4 then tgt else kin
def rtk (k : Int) (tk sk : ByteArray) : ByteArray := if k = 3 then sk else if k = 4 then sk else tk
def rsk (k : Int) (tk : ByteArray) : ByteArray := if k = 3 then tk else if k = 4 then tk else ⟨#[]⟩

theorem rtyp_x {t : Int} (h3 : (t == 3) = false) (h2 : (t == 2) = false) : rtyp t = t := by
  unfold rtyp; rw [if_neg (beq_eq_false_iff_ne.1 h3), if_neg (beq_eq_false_iff_ne.1 h2)]
theorem rkeys_x {k : Int} (h1 : (k == 1) = false) (h2 : (k == 2) = false) : rkeys k = k := by
  unfold rkeys; rw [if_neg (beq_eq_false_iff_ne.1 h1), if_neg (beq_eq_false_iff_ne.1 h2)]
theorem rkin_x {k : Int} (h4 : (k == 4) = false) (kin tgt : Option Addr) : rkin k kin tgt = kin := by
  unfold rkin; rw [if_neg (beq_eq_false_iff_ne.1 h4)]
theorem rtk_x {k : Int} (h3 : (k == 3) = false) (h4 : (k == 4) = false) (tk sk : ByteArray) : rtk k tk sk = tk := by
  unfold rtk; rw [if_neg (beq_eq_false_iff_ne.1 h3), if_neg (beq_eq_false_iff_ne.1 h4)]
theorem rsk_x {k : Int} (h3 : (k == 3) = false) (h4 : (k == 4) = false) (tk : ByteArray) : rsk k tk = ⟨#[]⟩ := by
  unfold rsk; rw [if_neg (beq_eq_false_iff_ne.1 h3), if_neg (beq_eq_false_iff_ne.1 h4)]

theorem assoc_mk (w : World) (name : ByteArray) (typ : Int) (src tgt : Option Addr) (keys : Int) (kin : Option Addr) (tk sk rev lab sub x y z : ByteArray) :
    Assoc (w.alloc (.cells #[.string name, .int .i64 typ, .pointer src, .pointer tgt, .int .i64 keys, .pointer kin, .string tk, .string sk, .string rev, .string lab, .string sub, .string x, .string y, .string z] 48)) w.heap.size name typ src tgt keys kin tk sk rev lab sub :=
  ⟨by simp, by simp, by simp, by simp, by simp, by simp, by simp, by simp, by simp, by simp, by simp⟩

theorem Assoc.drew {w : World} {b : Nat} {name : ByteArray} {typ : Int} {src tgt : Option Addr} {keys : Int} {kin : Option Addr} {tk sk rev lab sub : ByteArray}
    (h : Assoc w b name typ src tgt keys kin tk sk rev lab sub) : Assoc w.drew b name typ src tgt keys kin tk sk rev lab sub :=
  ⟨h.c0, h.c1, h.c2, h.c3, h.c4, h.c5, h.c6, h.c7, h.c8, h.c9, h.c10⟩

theorem Assoc.below {w w' : World} {b : Nat} {name : ByteArray} {typ : Int} {src tgt : Option Addr} {keys : Int} {kin : Option Addr} {tk sk rev lab sub : ByteArray}
    (h : Assoc w b name typ src tgt keys kin tk sk rev lab sub) (hb : Below w.heap.size w w') : Assoc w' b name typ src tgt keys kin tk sk rev lab sub := by
  have hlt : b < w.heap.size := cell_lt h.c0
  have key : ∀ o, w'.cell? ⟨b, o, none⟩ = w.cell? ⟨b, o, none⟩ := fun o => hb.cell (p := ⟨b, o, none⟩) hlt
  exact ⟨(key 0).trans h.c0, (key 1).trans h.c1, (key 2).trans h.c2, (key 3).trans h.c3, (key 4).trans h.c4, (key 5).trans h.c5, (key 6).trans h.c6, (key 7).trans h.c7, (key 8).trans h.c8, (key 9).trans h.c9, (key 10).trans h.c10⟩

set_option maxHeartbeats 8000000 in
theorem reversed_any (b : Nat) (name : ByteArray) (typ : Int) (src tgt : Option Addr) (keys : Int) (kin : Option Addr) (tk sk rev lab sub : ByteArray) (w : World)
    (hA : Assoc w b name typ src tgt keys kin tk sk rev lab sub) :
    Calls Try.prog 18 #[.pointer (some ⟨b, 0, none⟩)] w fun e w' => 
      e = .returned (.pointer (some ⟨w.heap.size, 0, none⟩)) ∧ Assoc w' w.heap.size rev (rtyp typ) tgt src (rkeys keys) (rkin keys kin tgt) (rtk keys tk sk) (rsk keys tk) name ⟨#[]⟩ ⟨#[]⟩ ∧ Below w.heap.size w w' := by
  obtain ⟨c0, c1, c2, c3, c4, c5, c6, c7, c8, c9, c10⟩ := hA
  have hb : b < w.heap.size := cell_lt c0
  go_enter Try.func18, Try.ntmps18
  go_wp2
  go_region_held3 (fun w' => w'.cell? ⟨b, 0, none⟩ = some (.string name) ∧ w'.cell? ⟨b, 1, none⟩ = some (.int .i64 typ) ∧ w'.cell? ⟨b, 2, none⟩ = some (.pointer src) ∧ w'.cell? ⟨b, 3, none⟩ = some (.pointer tgt) ∧ w'.cell? ⟨b, 4, none⟩ = some (.int .i64 keys) ∧ w'.cell? ⟨b, 5, none⟩ = some (.pointer kin) ∧ w'.cell? ⟨b, 6, none⟩ = some (.string tk) ∧ w'.cell? ⟨b, 8, none⟩ = some (.string rev)) (go_keep) (fail)
  have ht : typ = 3 ∨ typ = 2 ∨ ((typ == 3) = false ∧ (typ == 2) = false) := by
    by_cases h3 : typ = 3
    · exact Or.inl h3
    · by_cases h2 : typ = 2
      · exact Or.inr (Or.inl h2)
      · exact Or.inr (Or.inr ⟨beq_eq_false_iff_ne.2 h3, beq_eq_false_iff_ne.2 h2⟩)
  have hk : keys = 1 ∨ keys = 2 ∨ keys = 3 ∨ keys = 4 ∨ ((keys == 1) = false ∧ (keys == 2) = false ∧ (keys == 3) = false ∧ (keys == 4) = false) := by
    by_cases h1 : keys = 1
    · exact Or.inl h1
    · by_cases h2 : keys = 2
      · exact Or.inr (Or.inl h2)
      · by_cases h3 : keys = 3
        · exact Or.inr (Or.inr (Or.inl h3))
        · by_cases h4 : keys = 4
          · exact Or.inr (Or.inr (Or.inr (Or.inl h4)))
          · exact Or.inr (Or.inr (Or.inr (Or.inr ⟨beq_eq_false_iff_ne.2 h1, beq_eq_false_iff_ne.2 h2, beq_eq_false_iff_ne.2 h3, beq_eq_false_iff_ne.2 h4⟩)))
  clear c0 c2 c8 c9 c10
  have bel : ∀ o, Below w.heap.size w (w.alloc o) := fun o => (Below.refl w.heap.size w).alloc (Nat.le_refl _) o
  have Hbel := hide bel
  clear bel
  rcases hk with rfl | rfl | rfl | rfl | ⟨k1, k2, k3, k4⟩
  · clear c3 c5 c6 c7
    rcases ht with rfl | rfl | ⟨t3, t2⟩
    all_goals
      go_wp2
      go_ret
      refine ⟨rfl, ?_, Below.drew (Hbel.out _)⟩
      rw [show rkeys 1 = 2 from rfl, show rkin 1 kin tgt = kin from rfl, show rtk 1 tk sk = tk from rfl, show rsk 1 tk = ⟨#[]⟩ from rfl]
      first
        | rw [show rtyp 3 = 2 from rfl]
        | rw [show rtyp 2 = 3 from rfl]
        | rw [rtyp_x t3 t2]
      exact (assoc_mk _ _ _ _ _ _ _ _ _ _ _ _ _ _ _).drew
  · clear c3 c5 c6 c7
    rcases ht with rfl | rfl | ⟨t3, t2⟩
    all_goals
      go_wp2
      go_ret
      refine ⟨rfl, ?_, Below.drew (Hbel.out _)⟩
      rw [show rkeys 2 = 1 from rfl, show rkin 2 kin tgt = kin from rfl, show rtk 2 tk sk = tk from rfl, show rsk 2 tk = ⟨#[]⟩ from rfl]
      first
        | rw [show rtyp 3 = 2 from rfl]
        | rw [show rtyp 2 = 3 from rfl]
        | rw [rtyp_x t3 t2]
      exact (assoc_mk _ _ _ _ _ _ _ _ _ _ _ _ _ _ _).drew
  · clear c3 c5
    rcases ht with rfl | rfl | ⟨t3, t2⟩
    all_goals
      go_wp2
      go_region_held3 (fun w' => w'.cell? ⟨b, 6, none⟩ = some (.string tk) ∧ w'.cell? ⟨b, 7, none⟩ = some (.string sk)) (go_keep) (fail)
      go_wp2
      go_ret
      refine ⟨rfl, ?_, Below.drew (Below.drew (Hbel.out _))⟩
      rw [show rkeys 3 = 3 from rfl, show rkin 3 kin tgt = kin from rfl, show rtk 3 tk sk = sk from rfl, show rsk 3 tk = tk from rfl]
      first
        | rw [show rtyp 3 = 2 from rfl]
        | rw [show rtyp 2 = 3 from rfl]
        | rw [rtyp_x t3 t2]
      exact (assoc_mk _ _ _ _ _ _ _ _ _ _ _ _ _ _ _).drew.drew
  · clear c5
    rcases ht with rfl | rfl | ⟨t3, t2⟩
    all_goals
      go_wp2
      go_region_held3 (fun w' => w'.cell? ⟨b, 3, none⟩ = some (.pointer tgt) ∧ w'.cell? ⟨b, 6, none⟩ = some (.string tk) ∧ w'.cell? ⟨b, 7, none⟩ = some (.string sk)) (go_keep) (fail)
      go_wp2
      go_ret
      refine ⟨rfl, ?_, Below.drew (Below.drew (Hbel.out _))⟩
      rw [show rkeys 4 = 4 from rfl, show rkin 4 kin tgt = tgt from rfl, show rtk 4 tk sk = sk from rfl, show rsk 4 tk = tk from rfl]
      first
        | rw [show rtyp 3 = 2 from rfl]
        | rw [show rtyp 2 = 3 from rfl]
        | rw [rtyp_x t3 t2]
      exact (assoc_mk _ _ _ _ _ _ _ _ _ _ _ _ _ _ _).drew.drew
  · clear c3 c5 c6 c7
    rcases ht with rfl | rfl | ⟨t3, t2⟩
    all_goals
      go_wp2
      go_ret
      refine ⟨rfl, ?_, Below.drew (Hbel.out _)⟩
      rw [rkeys_x k1 k2, rkin_x k4, rtk_x k3 k4, rsk_x k3 k4]
      first
        | rw [show rtyp 3 = 2 from rfl]
        | rw [show rtyp 2 = 3 from rfl]
        | rw [rtyp_x t3 t2]
      exact (assoc_mk _ _ _ _ _ _ _ _ _ _ _ _ _ _ _).drew
end Go.Proofs.Qxb6003612a.Rev
