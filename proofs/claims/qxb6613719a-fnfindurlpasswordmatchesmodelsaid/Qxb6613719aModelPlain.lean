/- THE MODEL's PLAIN FUNCTIONS, AND THAT THEY ARE THE FINDER's. No Go in sight. -/
import Derived.Test.Qxb6613719aKeeps
import Derived.Test.Qxb6613719aScan
namespace Go.Proofs.Qxb6613719a

/-- A word of kind bytes, not empty. -/
def kindWordL (zs : List Int) : Bool := !decide (zs.length = 0) && decide (runL kindB zs = zs.length)
/-- Twelve alias bytes. -/
def aliasL (zs : List Int) : Bool := decide (zs.length = 12) && decide (runL aliasB zs = zs.length)
def colonB (c : Int) : Bool := c != 58
/-- One marker without its closing bracket. -/
def pieceL (zs : List Int) : Bool :=
  (zs.take 10 == openL) &&
    (if runL colonB (zs.drop 10) = (zs.drop 10).length then kindWordL (zs.drop 10)
     else kindWordL ((zs.drop 10).take (runL colonB (zs.drop 10))) && aliasL ((zs.drop 10).drop (runL colonB (zs.drop 10) + 1)))
/-- The pieces from place k on, the present one begun at 'from'. -/
def restL (zs : List Int) : Nat → Nat → Nat → Bool
  | 0, _, _ => true
  | n + 1, f, k => if gx zs k == 93 then (if pieceL (midL zs f k) then restL zs n (k + 1) (k + 1) else false) else restL zs n f (k + 1)
def piecesL (zs : List Int) : Bool := !decide (zs.length = 0) && gx zs (zs.length - 1) == 93 && restL zs zs.length 0 0
def keptL (zs : List Int) : Bool := decide (runL starB zs = zs.length) || wordsL zs || piecesL zs

/-- Where the run of scheme bytes that ends before a begins. -/
def startL (zs : List Int) : Nat → Nat
  | 0 => 0
  | k + 1 => if schemeB (gx zs k) then startL zs k else k + 1
/-- Is there a letter among the n places from m on? -/
def someLetter (zs : List Int) : Nat → Nat → Bool
  | 0, _ => false
  | n + 1, m => letterB (gx zs m) || someLetter zs n (m + 1)

theorem startL_le (zs : List Int) : ∀ a, startL zs a ≤ a
  | 0 => Nat.le_refl _
  | k + 1 => by
    unfold startL
    split
    · have := startL_le zs k; omega
    · exact Nat.le_refl _

theorem someLetter_snoc (zs : List Int) : ∀ n m, someLetter zs (n + 1) m = (someLetter zs n m || letterB (gx zs (m + n)))
  | 0, m => by simp [someLetter]
  | n + 1, m => by
    show (letterB (gx zs m) || someLetter zs (n + 1) (m + 1)) = ((letterB (gx zs m) || someLetter zs n (m + 1)) || letterB (gx zs (m + (n + 1))))
    rw [someLetter_snoc zs n (m + 1), Bool.or_assoc, show m + 1 + n = m + (n + 1) by omega]

theorem letter_is_scheme {c : Int} (h : letterB c = true) : schemeB c = true := by
  simp only [letterB, Bool.or_eq_true] at h
  rcases h with h | h <;> simp [schemeB, alnumB, h]

/-- The model's scheme test is the finder's. -/
theorem back_eq (zs : List Int) : ∀ a, someLetter zs (a - startL zs a) (startL zs a) = backL zs a
  | 0 => rfl
  | k + 1 => by
    have ih := back_eq zs k
    have hle := startL_le zs k
    cases hs : schemeB (gx zs k)
    · have hl : letterB (gx zs k) = false := by
        cases h : letterB (gx zs k)
        · rfl
        · rw [letter_is_scheme h] at hs; cases hs
      have e : startL zs (k + 1) = k + 1 := by simp [startL, hs]
      rw [e]
      simp [someLetter, backL, hs, hl]
    · have e : startL zs (k + 1) = startL zs k := by simp [startL, hs]
      rw [e, show k + 1 - startL zs k = (k - startL zs k) + 1 by omega, someLetter_snoc, ih, show startL zs k + (k - startL zs k) = k by omega]
      cases hl : letterB (gx zs k) <;> simp [backL, hs, hl]
end Go.Proofs.Qxb6613719a
