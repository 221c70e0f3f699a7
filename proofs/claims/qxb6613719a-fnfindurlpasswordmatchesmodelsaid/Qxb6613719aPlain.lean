/- THE PLAIN FUNCTIONS: bytes as numbers, texts as lists of numbers. No Go in sight. -/
import GoSem.Claim
namespace Go.Proofs.Qxb6613719a

/-- The k-th byte. -/
def gx (zs : List Int) (k : Nat) : Int := zs.getD k 0

theorem gx_drop (zs : List Int) (n k : Nat) : gx (zs.drop n) k = gx zs (n + k) := by simp [gx, List.getD]
theorem gx_take (zs : List Int) (n k : Nat) (h : k < n) : gx (zs.take n) k = gx zs k := by simp [gx, List.getD, h]
theorem gx_cons_zero (a : Int) (zs : List Int) : gx (a :: zs) 0 = a := rfl
theorem gx_cons_succ (a : Int) (zs : List Int) (k : Nat) : gx (a :: zs) (k + 1) = gx zs k := rfl
theorem gx_append_right (ps zs : List Int) (k : Nat) : gx (ps ++ zs) (ps.length + k) = gx zs k := by simp [gx, List.getD, List.getElem?_append_right]
theorem gx_append_left (ps zs : List Int) (k : Nat) (h : k < ps.length) : gx (ps ++ zs) k = gx ps k := by simp [gx, List.getD, List.getElem?_append_left h]
theorem gx_ext {xs ys : List Int} (h : xs.length = ys.length) (h' : ∀ k, k < xs.length → gx xs k = gx ys k) : xs = ys := by
  apply List.ext_getElem h
  intro i h1 h2
  have := h' i h1
  simpa [gx, List.getD, h1, h2] using this

def upperB (c : Int) : Bool := decide (65 ≤ c) && decide (c ≤ 90)
def lowB (c : Int) : Bool := decide (97 ≤ c) && decide (c ≤ 122)
def digitB (c : Int) : Bool := decide (48 ≤ c) && decide (c ≤ 57)
def letterB (c : Int) : Bool := upperB c || lowB c
def alnumB (c : Int) : Bool := upperB c || digitB c || lowB c
def schemeB (c : Int) : Bool := alnumB c || c == 43 || c == 46 || c == 45
def spaceB (c : Int) : Bool := c == 32 || (decide (9 ≤ c) && decide (c ≤ 13))
def passB (c : Int) : Bool := c != 64 && c != 47 && !spaceB c
def userB (c : Int) : Bool := c != 58 && passB c
def starB (c : Int) : Bool := c == 42
def kindB (c : Int) : Bool := lowB c || digitB c || c == 45
def aliasB (c : Int) : Bool := digitB c || (decide (97 ≤ c) && decide (c ≤ 102))
def lowerI (c : Int) : Int := if upperB c then c + 32 else c

/-- How many bytes of the class p the text starts with. -/
def runL (p : Int → Bool) : List Int → Nat
  | [] => 0
  | c :: l => if p c then runL p l + 1 else 0

theorem runL_le (p : Int → Bool) (zs : List Int) : runL p zs ≤ zs.length := by
  induction zs with
  | nil => simp [runL]
  | cons c l ih => simp only [runL]; split <;> simp <;> omega

theorem runL_before (p : Int → Bool) (zs : List Int) : ∀ t, t < runL p zs → p (gx zs t) = true := by
  induction zs with
  | nil => intro t h; simp [runL] at h
  | cons c l ih =>
    intro t h
    simp only [runL] at h
    split at h
    · cases t with
      | zero => assumption
      | succ t => exact ih t (by omega)
    · omega

theorem runL_at (p : Int → Bool) (zs : List Int) (h : runL p zs < zs.length) : p (gx zs (runL p zs)) = false := by
  induction zs with
  | nil => simp at h
  | cons c l ih =>
    simp only [runL] at h ⊢
    split
    · rename_i hp
      rw [if_pos hp] at h
      exact ih (by simpa using h)
    · rename_i hp
      simpa [gx] using hp

/-- The run is known by what it is. -/
theorem runL_eq (p : Int → Bool) (zs : List Int) (k : Nat) (hk : k ≤ zs.length) (h1 : ∀ t, t < k → p (gx zs t) = true) (h2 : k < zs.length → p (gx zs k) = false) : runL p zs = k := by
  rcases Nat.lt_trichotomy (runL p zs) k with h | h | h
  · have a := runL_at p zs (by omega)
    rw [h1 _ h] at a
    cases a
  · exact h
  · have a := runL_before p zs k h
    have b := h2 (by have := runL_le p zs; omega)
    rw [a] at b
    cases b

/-- n bytes of the class p at the head. -/
def spansL (n : Nat) (p : Int → Bool) (zs : List Int) : Bool := decide (n ≤ runL p zs)

/-- The text, folded to lower case, is the word. -/
def foldL (zs word : List Int) : Bool := zs.map lowerI == word

def openL : List Int := [91, 82, 69, 68, 65, 67, 84, 69, 68, 58]

/-- The length of the marker at the head, or 0. -/
def kindEnd (zs : List Int) : Nat := 10 + runL kindB (zs.drop 10)
def aliasEnd (zs : List Int) (n : Nat) : Nat := if decide (n < zs.length) && gx zs n == 58 && spansL 12 aliasB (zs.drop (n + 1)) then n + 13 else n
def markerL (zs : List Int) : Nat :=
  if zs.take 10 == openL then
    if kindEnd zs == 10 then 0
    else if decide (aliasEnd zs (kindEnd zs) = zs.length) || gx zs (aliasEnd zs (kindEnd zs)) != 93 then 0
    else aliasEnd zs (kindEnd zs) + 1
  else 0

/-- Nothing but markers. -/
def marksF : Nat → List Int → Bool
  | 0, zs => zs.isEmpty
  | f + 1, zs => if zs.isEmpty then true else if markerL zs == 0 then false else marksF f (zs.drop (markerL zs))
def marksL (zs : List Int) : Bool := marksF zs.length zs

def wNull : List Int := [110, 117, 108, 108]
def wNone : List Int := [110, 111, 110, 101]
def wNil : List Int := [110, 105, 108]
def wTrue : List Int := [116, 114, 117, 101]
def wFalse : List Int := [102, 97, 108, 115, 101]
def wUndef : List Int := [117, 110, 100, 101, 102, 105, 110, 101, 100]

def wordsL (zs : List Int) : Bool := foldL zs wNull || foldL zs wNone || foldL zs wNil || foldL zs wTrue || foldL zs wFalse || foldL zs wUndef
def keepsL (zs : List Int) : Bool := runL starB zs == zs.length || marksL zs || wordsL zs

/-- Is there a letter in the run of scheme bytes that ends just before place k? -/
def backL (zs : List Int) : Nat → Bool
  | 0 => false
  | k + 1 => if schemeB (gx zs k) && !letterB (gx zs k) then backL zs k else letterB (gx zs k)

def userEnd (zs : List Int) (i : Nat) : Nat := i + 3 + runL userB (zs.drop (i + 3))
def passEnd (zs : List Int) (s : Nat) : Nat := s + runL passB (zs.drop s)
def midL (zs : List Int) (s e : Nat) : List Int := (zs.drop s).take (e - s)

/-- Is a password anchored at i? -/
def hitL (zs : List Int) (i : Nat) : Bool :=
  backL zs i && !decide (userEnd zs i = zs.length) && gx zs (userEnd zs i) == 58 &&
    !decide (passEnd zs (userEnd zs i + 1) = zs.length) && gx zs (passEnd zs (userEnd zs i + 1)) == 64 && !keepsL (midL zs (userEnd zs i + 1) (passEnd zs (userEnd zs i + 1)))

def anchorL (zs : List Int) (a : Nat) : Bool := gx zs a == 58 && gx zs (a + 1) == 47 && gx zs (a + 2) == 47

/-- The first place from a on, of n places, at which a password is anchored. -/
def findL (zs : List Int) : Nat → Nat → Option Nat
  | 0, _ => none
  | n + 1, a => if anchorL zs a && hitL zs a then some a else findL zs n (a + 1)

/-- What the search hands back. -/
def spanL (zs : List Int) : Option Nat → Int × Int
  | none => (-1, -1)
  | some a => (((userEnd zs a + 1 : Nat) : Int), ((passEnd zs (userEnd zs a + 1) : Nat) : Int))
end Go.Proofs.Qxb6613719a
