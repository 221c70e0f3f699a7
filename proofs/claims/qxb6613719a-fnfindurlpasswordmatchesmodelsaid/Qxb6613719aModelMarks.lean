/- The model's markers are the finder's. No Go in sight. -/
import Derived.Test.Qxb6613719aModelPlain
namespace Go.Proofs.Qxb6613719a
set_option linter.unusedVariables false

theorem runL_take (p : Int → Bool) : ∀ (zs : List Int) (k : Nat), runL p (zs.take k) = min (runL p zs) k
  | [], k => by simp [runL]
  | c :: l, 0 => by simp [runL]
  | c :: l, k + 1 => by
    simp only [List.take_succ_cons, runL, runL_take p l k]
    split <;> omega

def brB (c : Int) : Bool := c != 93

theorem kind_not (c : Int) (h : kindB c = true) : c ≠ 93 ∧ c ≠ 58 := by
  simp [kindB, lowB, digitB] at h
  omega
theorem alias_not (c : Int) (h : aliasB c = true) : c ≠ 93 := by
  simp [aliasB, digitB] at h
  omega

theorem kindWordL_iff (zs : List Int) : kindWordL zs = true ↔ zs.length ≠ 0 ∧ runL kindB zs = zs.length := by simp [kindWordL]
theorem aliasL_iff (zs : List Int) : aliasL zs = true ↔ zs.length = 12 ∧ runL aliasB zs = zs.length := by simp [aliasL]

/-- A run of bytes that are no p stops at a byte that is. -/
theorem runL_stop {p : Int → Bool} {zs : List Int} {k : Nat} (hk : k < zs.length) (h : p (gx zs k) = false) : runL p zs ≤ k := by
  rcases Nat.lt_or_ge k (runL p zs) with h' | h'
  · rw [runL_before p zs k h'] at h; cases h
  · exact h'

theorem open_gx {S : List Int} (h : (S.take 10 == openL) = true) : 10 ≤ S.length ∧ ∀ k, k < 10 → gx S k ≠ 93 := by
  have e := beq_iff_eq.1 h
  have hl : 10 ≤ S.length := by
    have := congrArg List.length e
    simp [openL] at this
    omega
  refine ⟨hl, fun k hk => ?_⟩
  rw [← gx_take S 10 k hk, e]
  match k, hk with
  | 0, _ | 1, _ | 2, _ | 3, _ | 4, _ | 5, _ | 6, _ | 7, _ | 8, _ | 9, _ => simp [openL, gx]

/-- The marker at the head ends at the first bracket, and is there just where the piece before it is one. -/
theorem marker_piece (S : List Int) (r : Nat) (hr : r < S.length) (h93 : gx S r = 93) (hb : ∀ t, t < r → gx S t ≠ 93) : markerL S = if pieceL (S.take r) then r + 1 else 0 := by
  cases hop : (S.take 10 == openL)
  · have hm : markerL S = 0 := by simp [markerL, hop]
    rw [hm]
    have hp : pieceL (S.take r) = false := by
      rcases Nat.lt_or_ge r 10 with h | h
      · have : ((S.take r).take 10 == openL) = false := by
          rw [beq_eq_false_iff_ne]
          intro e
          have := congrArg List.length e
          simp [openL] at this
          omega
        simp [pieceL, this]
      · have : ((S.take r).take 10 == openL) = false := by rw [List.take_take, show min 10 r = 10 by omega]; exact hop
        simp [pieceL, this]
    simp [hp]
  · obtain ⟨hl10, hno⟩ := open_gx hop
    have hr10 : 10 ≤ r := by
      rcases Nat.lt_or_ge r 10 with h | h
      · exact absurd h93 (hno r h)
      · exact h
    have hop' : ((S.take r).take 10 == openL) = true := by rw [List.take_take, show min 10 r = 10 by omega]; exact hop
    have hdrop : (S.take r).drop 10 = (S.drop 10).take (r - 10) := by rw [List.drop_take]
    obtain ⟨R, hR⟩ : ∃ R, S.drop 10 = R := ⟨_, rfl⟩
    have hRl : R.length = S.length - 10 := by rw [← hR]; simp
    have hRg : ∀ k, gx R k = gx S (10 + k) := fun k => by rw [← hR, gx_drop]
    obtain ⟨q, hq⟩ : ∃ q, runL kindB R = q := ⟨_, rfl⟩
    have hqr : q ≤ r - 10 := by
      rw [← hq]
      apply runL_stop (by omega)
      rw [hRg, show 10 + (r - 10) = r by omega, h93]
      decide
    have hqk : ∀ t, t < q → kindB (gx R t) = true := fun t ht => runL_before kindB R t (by omega)
    have hqx : kindB (gx R q) = false := by have := runL_at kindB R (by omega); rwa [hq] at this
    -- the piece, in the words of R
    have hpc : pieceL (S.take r) = (if runL colonB (R.take (r - 10)) = (R.take (r - 10)).length then kindWordL (R.take (r - 10)) else kindWordL ((R.take (r - 10)).take (runL colonB (R.take (r - 10)))) && aliasL ((R.take (r - 10)).drop (runL colonB (R.take (r - 10)) + 1))) := by
      simp only [pieceL, hop', hdrop, hR, Bool.true_and]
    have hRt : (R.take (r - 10)).length = r - 10 := by simp; omega
    obtain ⟨c, hc⟩ : ∃ c, runL colonB R = c := ⟨_, rfl⟩
    have hcq : q ≤ c := by
      rcases Nat.lt_or_ge c q with h | h
      · have h1 := runL_at colonB R (by omega)
        rw [hc] at h1
        have h2 := (kind_not _ (hqk c h)).2
        simp [colonB] at h1
        exact absurd h1 h2
      · exact h
    rw [runL_take, hc, hRt] at hpc
    have hke : kindEnd S = 10 + q := by rw [kindEnd, hR, hq]
    by_cases hq0 : q = 0
    · -- no kind byte
      have hm : markerL S = 0 := by simp [markerL, hop, hke, hq0]
      have hp : pieceL (S.take r) = false := by
        rw [hpc]
        split
        · rw [Bool.eq_false_iff, ne_eq, kindWordL_iff, hRt, runL_take, hq]
          omega
        · rw [Bool.eq_false_iff, ne_eq, Bool.and_eq_true, kindWordL_iff, List.take_take, runL_take, hq]
          simp only [List.length_take]
          omega
      rw [hm, hp]; rfl
    · by_cases hqe : q = r - 10
      · -- the kind runs up to the bracket
        have hgn : gx S (10 + q) = 93 := by rw [hqe, show 10 + (r - 10) = r by omega]; exact h93
        have hae : aliasEnd S (10 + q) = 10 + q := by simp [aliasEnd, hgn]
        have hm : markerL S = r + 1 := by
          have e1 : ¬ 10 + q = S.length := by omega
          simp [markerL, hop, hke, hq0, hae, e1, hgn]
          omega
        have hp : pieceL (S.take r) = true := by
          rw [hpc, if_pos (by omega), kindWordL_iff, hRt, runL_take, hq]
          omega
        rw [hm, hp]; rfl
      · have hn93 : gx S (10 + q) ≠ 93 := hb _ (by omega)
        have hgR : gx R q = gx S (10 + q) := hRg q
        by_cases h58 : gx S (10 + q) = 58
        · -- a colon: an alias must follow
          have hcq' : c = q := by
            have : runL colonB R ≤ q := runL_stop (by omega) (by rw [hgR, h58]; decide)
            omega
          obtain ⟨A, hA⟩ : ∃ A, S.drop (10 + q + 1) = A := ⟨_, rfl⟩
          have hAl : A.length = S.length - (10 + q + 1) := by rw [← hA]; simp
          have hAg : ∀ k, gx A k = gx S (10 + q + 1 + k) := fun k => by rw [← hA, gx_drop]
          have hRA : R.drop (q + 1) = A := by rw [← hR, ← hA, List.drop_drop]; congr 1
          have hpp : pieceL (S.take r) = aliasL (A.take (r - 10 - (q + 1))) := by
            have hk : kindWordL ((R.take (r - 10)).take q) = true := by
              rw [kindWordL_iff, List.take_take, runL_take, hq]
              simp only [List.length_take]
              omega
            rw [hpc, if_neg (by omega), hcq', show min q (r - 10) = q by omega, hk, Bool.true_and, List.drop_take, hRA]
          have hAt : (A.take (r - 10 - (q + 1))).length = r - 10 - (q + 1) := by simp; omega
          have hal : runL aliasB A ≤ r - 10 - (q + 1) := by
            apply runL_stop (by omega)
            rw [hAg, show 10 + q + 1 + (r - 10 - (q + 1)) = r by omega, h93]
            decide
          by_cases h12 : 12 ≤ runL aliasB A
          · have hae : aliasEnd S (10 + q) = 10 + q + 13 := by
              have e1 : 10 + q < S.length := by omega
              simp [aliasEnd, e1, h58, hA, spansL, h12]
            by_cases hm12 : r - 10 - (q + 1) = 12
            · have hg : gx S (10 + q + 13) = 93 := by rw [show 10 + q + 13 = r by omega]; exact h93
              have hm : markerL S = r + 1 := by
                have e1 : ¬ 10 + q + 13 = S.length := by omega
                simp [markerL, hop, hke, hq0, hae, e1, hg]
                omega
              have hp : pieceL (S.take r) = true := by
                rw [hpp, aliasL_iff, hAt, runL_take]
                omega
              rw [hm, hp]; rfl
            · have hg : gx S (10 + q + 13) ≠ 93 := hb _ (by omega)
              have hm : markerL S = 0 := by simp [markerL, hop, hke, hae, hg]
              have hp : pieceL (S.take r) = false := by
                rw [hpp, Bool.eq_false_iff, ne_eq, aliasL_iff, hAt]
                omega
              rw [hm, hp]; rfl
          · have hae : aliasEnd S (10 + q) = 10 + q := by simp [aliasEnd, hA, spansL, h12]
            have hm : markerL S = 0 := by simp [markerL, hop, hke, hae, h58]
            have hp : pieceL (S.take r) = false := by
              rw [hpp, Bool.eq_false_iff, ne_eq, aliasL_iff, hAt, runL_take]
              omega
            rw [hm, hp]; rfl
        · -- neither a colon nor the bracket
          have hae : aliasEnd S (10 + q) = 10 + q := by simp [aliasEnd, h58]
          have hm : markerL S = 0 := by simp [markerL, hop, hke, hae, hn93]
          have hcg : q < c := by
            rcases Nat.lt_or_ge q c with h | h
            · exact h
            · have : c = q := by omega
              have h1 := runL_at colonB R (by omega)
              rw [hc, this, hgR] at h1
              simp [colonB] at h1
              exact absurd h1 h58
          have hp : pieceL (S.take r) = false := by
            rw [hpc]
            split
            · rw [Bool.eq_false_iff, ne_eq, kindWordL_iff, hRt, runL_take, hq]
              omega
            · rw [Bool.eq_false_iff, ne_eq, Bool.and_eq_true, kindWordL_iff, List.take_take, runL_take, hq]
              simp only [List.length_take]
              omega
          rw [hm, hp]; rfl

theorem rest_skip (zs : List Int) (f : Nat) : ∀ (r n k : Nat), (∀ t, t < r → gx zs (k + t) ≠ 93) → restL zs (n + r) f k = restL zs n f (k + r)
  | 0, n, k, _ => rfl
  | r + 1, n, k, h => by
    have h0 := h 0 (by omega)
    rw [Nat.add_zero] at h0
    show restL zs ((n + r) + 1) f k = _
    simp only [restL, h0, beq_iff_eq, if_false]
    rw [rest_skip zs f r n (k + 1) (fun t ht => by have := h (t + 1) (by omega); rwa [show k + (t + 1) = k + 1 + t by omega] at this), show k + 1 + r = k + (r + 1) by omega]

theorem rest_marks (zs : List Int) (hlast : gx zs (zs.length - 1) = 93) : ∀ (m f : Nat), zs.length - f ≤ m → f ≤ zs.length → restL zs (zs.length - f) f f = marksL (zs.drop f)
  | 0, f, hm, hf => by
    have e : zs.length - f = 0 := by omega
    have : zs.drop f = [] := List.drop_eq_nil_of_le (by omega)
    rw [e, this, marksL_nil]
    rfl
  | m + 1, f, hm, hf => by
    by_cases he : f = zs.length
    · have e : zs.length - f = 0 := by omega
      have : zs.drop f = [] := List.drop_eq_nil_of_le (by omega)
      rw [e, this, marksL_nil]
      rfl
    · obtain ⟨S, hS⟩ : ∃ S, zs.drop f = S := ⟨_, rfl⟩
      have hSl : S.length = zs.length - f := by rw [← hS]; simp
      have hSg : ∀ k, gx S k = gx zs (f + k) := fun k => by rw [← hS, gx_drop]
      obtain ⟨r, hr⟩ : ∃ r, runL brB S = r := ⟨_, rfl⟩
      have hrl : r < S.length := by
        have : runL brB S ≤ S.length - 1 := runL_stop (by omega) (by rw [hSg, show f + (S.length - 1) = zs.length - 1 by omega, hlast]; decide)
        omega
      have h93 : gx S r = 93 := by
        have := runL_at brB S (by omega)
        rw [hr] at this
        simpa [brB] using this
      have hb : ∀ t, t < r → gx S t ≠ 93 := fun t ht => by
        have := runL_before brB S t (by omega)
        simpa [brB] using this
      have hmp := marker_piece S r hrl h93 hb
      have hne : S ≠ [] := fun h => by rw [h] at hrl; simp at hrl
      have hmid : midL zs f (f + r) = S.take r := by rw [midL, hS, show f + r - f = r by omega]
      have hstep : restL zs (zs.length - f) f f = if pieceL (S.take r) then restL zs (zs.length - (f + r + 1)) (f + r + 1) (f + r + 1) else false := by
        have e : zs.length - f = (zs.length - (f + r + 1) + 1) + r := by omega
        rw [e, rest_skip zs f r _ f (fun t ht => by rw [← hSg]; exact hb t ht)]
        have hg : gx zs (f + r) = 93 := by rw [← hSg]; exact h93
        simp only [restL, hg, hmid, BEq.rfl, if_true]
      rw [hstep, hS]
      cases hp : pieceL (S.take r)
      · rw [hp] at hmp
        rw [marksL_no hne hmp]
        rfl
      · rw [hp, if_pos rfl] at hmp
        rw [marksL_step hne (by omega), hmp, if_pos rfl, rest_marks zs hlast m (f + r + 1) (by omega) (by omega), ← hS, List.drop_drop]
        congr 1

theorem markerL_close {zs : List Int} (h : markerL zs ≠ 0) : gx zs (markerL zs - 1) = 93 := by
  unfold markerL at h ⊢
  split
  · rename_i h1
    rw [if_pos h1] at h
    split
    · rename_i h2
      rw [if_pos h2] at h
      exact absurd rfl h
    · rename_i h2
      rw [if_neg h2] at h
      split
      · rename_i h3
        rw [if_pos h3] at h
        exact absurd rfl h
      · rename_i h3
        rw [Nat.add_sub_cancel]
        simp only [Bool.or_eq_true, not_or, bne_iff_ne, ne_eq, Classical.not_not] at h3
        exact h3.2
  · rename_i h1
    rw [if_neg h1] at h
    exact absurd rfl h

theorem marksL_last : ∀ (m : Nat) {zs : List Int}, zs.length ≤ m → marksL zs = true → zs = [] ∨ gx zs (zs.length - 1) = 93
  | 0, zs, hm, _ => .inl (List.eq_nil_of_length_eq_zero (by omega))
  | m + 1, zs, hm, h => by
    by_cases hne : zs = []
    · exact .inl hne
    · right
      have hl : zs.length ≠ 0 := fun e => hne (List.eq_nil_of_length_eq_zero e)
      by_cases h0 : markerL zs = 0
      · rw [marksL_no hne h0] at h; cases h
      · have hc := markerL_close h0
        have hle := markerL_le zs
        rw [marksL_step hne h0] at h
        rcases marksL_last m (by simp; omega) h with e | e
        · have : zs.length ≤ markerL zs := by simpa using e
          rw [show zs.length - 1 = markerL zs - 1 by omega]
          exact hc
        · by_cases hen : markerL zs = zs.length
          · rw [show zs.length - 1 = markerL zs - 1 by omega]
            exact hc
          · rw [gx_drop, List.length_drop, show markerL zs + (zs.length - markerL zs - 1) = zs.length - 1 by omega] at e
            exact e

theorem pieces_marks {zs : List Int} (h : zs ≠ []) : piecesL zs = marksL zs := by
  have hl : zs.length ≠ 0 := fun e => h (List.eq_nil_of_length_eq_zero e)
  by_cases hlast : gx zs (zs.length - 1) = 93
  · have := rest_marks zs hlast zs.length 0 (by omega) (by omega)
    rw [Nat.sub_zero, List.drop_zero] at this
    simp [piecesL, hl, hlast, this]
  · have : marksL zs = false := by
      cases hm : marksL zs
      · rfl
      · rcases marksL_last zs.length (Nat.le_refl _) hm with e | e
        · exact absurd e h
        · exact absurd e hlast
    simp [piecesL, hlast, this]

theorem kept_eq (zs : List Int) : keptL zs = keepsL zs := by
  cases zs with
  | nil => rfl
  | cons a l =>
    have := pieces_marks (zs := a :: l) (by simp)
    rw [keptL, keepsL, this]
    by_cases h : runL starB (a :: l) = (a :: l).length
    · simp only [h, decide_true, Bool.true_or, BEq.rfl]
    · have e : (runL starB (a :: l) == (a :: l).length) = false := by rw [beq_eq_false_iff_ne]; exact h
      simp only [h, decide_false, Bool.false_or, e]
      rw [Bool.or_comm]
end Go.Proofs.Qxb6613719a
