/-
  The plain notion of this seat: 'r is the first index below n that p picks, or -1 where none is'. No Go in sight.
-/
import Derived.WalkKit
namespace Go.Proofs.Ybulkcmhc

/-- r is the first index below n that p picks; -1 where p picks none. -/
def Fst (p : Nat → Bool) (n : Nat) (r : Int) : Prop :=
  (r = -1 ∧ ∀ i, i < n → p i = false) ∨ ∃ k : Nat, k < n ∧ r = (k : Int) ∧ p k = true ∧ ∀ i, i < k → p i = false

theorem Fst.unique {p : Nat → Bool} {n : Nat} {r s : Int} (h : Fst p n r) (g : Fst p n s) : r = s := by
  rcases h with ⟨rfl, h⟩ | ⟨k, hk, rfl, h1, h2⟩ <;> rcases g with ⟨rfl, g⟩ | ⟨j, hj, rfl, g1, g2⟩
  · rfl
  · have := h j hj; rw [g1] at this; cases this
  · have := g k hk; rw [h1] at this; cases this
  · have : k = j := by
      rcases Nat.lt_trichotomy k j with hlt | rfl | hlt
      · have := g2 k hlt; rw [h1] at this; cases this
      · rfl
      · have := h2 j hlt; rw [g1] at this; cases this
    rw [this]

theorem Fst.none {p : Nat → Bool} {n : Nat} (h : ∀ i, i < n → p i = false) : Fst p n (-1) := Or.inl ⟨rfl, h⟩
theorem Fst.some {p : Nat → Bool} {n k : Nat} (hk : k < n) (h1 : p k = true) (h2 : ∀ i, i < k → p i = false) : Fst p n (k : Int) := Or.inr ⟨k, hk, rfl, h1, h2⟩

/-- One index more that p does not pick. -/
theorem none_succ {p : Nat → Bool} {k : Nat} (h : ∀ i, i < k → p i = false) (hk : p k = false) : ∀ i, i < k + 1 → p i = false := by
  intro i hi
  rcases Nat.lt_succ_iff_lt_or_eq.1 hi with h' | rfl
  · exact h i h'
  · exact hk

/-- A space or a tab. -/
def blankB (c : Int) : Bool := c == 32 || c == 9
/-- What the table of the second law answers. -/
def pickB (k : Int) : Int := if k % 6 = 0 then 32 else if k % 6 = 1 then 9 else if k % 6 = 2 then 97 else if k % 6 = 3 then 10 else if k % 6 = 4 then 49 else 255
end Go.Proofs.Ybulkcmhc
