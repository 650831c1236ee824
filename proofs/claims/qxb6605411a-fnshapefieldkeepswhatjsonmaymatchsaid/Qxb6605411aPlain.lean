/-
  THE PLAIN LAWS: white space.
-/
import Derived.Below
namespace Go.Proofs.Qxb6605411a

/-- JSON's four white-space bytes. -/
def blank (z : Int) : Bool := z == 32 || z == 9 || z == 10 || z == 13

/-- 'f' more places to look at, from i on. -/
def spN (Z : Nat → Int) : Nat → Nat → Nat
  | 0, i => i
  | f + 1, i => if blank (Z i) then spN Z f (i + 1) else i

/-- Where space lands. -/
def sp (Z : Nat → Int) (n i : Nat) : Nat := spN Z (n - i) i

theorem spN_ge (Z : Nat → Int) : ∀ f i, i ≤ spN Z f i
  | 0, _ => Nat.le_refl _
  | f + 1, i => by
    have := spN_ge Z f (i + 1)
    unfold spN
    split <;> omega

theorem spN_le (Z : Nat → Int) : ∀ f i, spN Z f i ≤ i + f
  | 0, _ => Nat.le_refl _
  | f + 1, i => by
    have := spN_le Z f (i + 1)
    unfold spN
    split <;> omega

theorem spN_blank (Z : Nat → Int) : ∀ f i j, i ≤ j → j < spN Z f i → blank (Z j) = true
  | 0, i, j, h1, h2 => by unfold spN at h2; omega
  | f + 1, i, j, h1, h2 => by
    have ih := spN_blank Z f (i + 1) j
    unfold spN at h2
    split at h2
    · by_cases e : j = i
      · subst e; assumption
      · exact ih (by omega) h2
    · omega

theorem spN_stop (Z : Nat → Int) : ∀ f i, spN Z f i = i + f ∨ blank (Z (spN Z f i)) = false
  | 0, _ => .inl rfl
  | f + 1, i => by
    have ih := spN_stop Z f (i + 1)
    by_cases h : blank (Z i) = true
    · have e : spN Z (f + 1) i = spN Z f (i + 1) := by rw [spN, if_pos h]
      rw [e]
      rcases ih with h1 | h1
      · left; omega
      · right; exact h1
    · have e : spN Z (f + 1) i = i := by rw [spN, if_neg h]
      rw [e]
      right; simpa using h

theorem sp_ge (Z : Nat → Int) (n i : Nat) : i ≤ sp Z n i := spN_ge _ _ _
theorem sp_le (Z : Nat → Int) (n i : Nat) (h : i ≤ n) : sp Z n i ≤ n := by
  have := spN_le Z (n - i) i
  unfold sp; omega
theorem sp_past (Z : Nat → Int) (n i : Nat) (h : n ≤ i) : sp Z n i = i := by
  unfold sp; rw [Nat.sub_eq_zero_of_le h]; rfl
theorem sp_blank (Z : Nat → Int) (n i j : Nat) (h1 : i ≤ j) (h2 : j < sp Z n i) : blank (Z j) = true := spN_blank _ _ _ _ h1 h2
theorem sp_stop (Z : Nat → Int) (n i : Nat) (h : i ≤ n) : sp Z n i = n ∨ blank (Z (sp Z n i)) = false := by
  rcases spN_stop Z (n - i) i with h1 | h1
  · left; unfold sp; omega
  · right; exact h1
theorem sp_yes (Z : Nat → Int) (n i : Nat) (h : i < n) (hb : blank (Z i) = true) : sp Z n i = sp Z n (i + 1) := by
  unfold sp
  have e : n - i = (n - (i + 1)) + 1 := by omega
  rw [e, spN, if_pos hb]
theorem sp_no (Z : Nat → Int) (n i : Nat) (h : i < n) (hb : blank (Z i) = false) : sp Z n i = i := by
  unfold sp
  have e : n - i = (n - (i + 1)) + 1 := by omega
  rw [e, spN, if_neg (by rw [hb]; simp)]
theorem sp_idem (Z : Nat → Int) (n i : Nat) : sp Z n (sp Z n i) = sp Z n i := by
  by_cases h : i ≤ n
  · rcases sp_stop Z n i h with h1 | h1
    · rw [sp_past Z n (sp Z n i) (by omega)]
    · have hl := sp_le Z n i h
      by_cases h2 : sp Z n i < n
      · exact sp_no Z n _ h2 h1
      · rw [sp_past Z n (sp Z n i) (by omega)]
  · rw [sp_past Z n i (by omega), sp_past Z n i (by omega)]

theorem blank_or (z : Int) : blank z = (((z == 32 || z == 9) || z == 10) || z == 13) := rfl
end Go.Proofs.Qxb6605411a
