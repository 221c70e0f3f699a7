/- THE PLAIN LAW: behind a prefix and a space the search shifts. No Go in sight. -/
import Derived.Test.Qxb6613719aScan
namespace Go.Proofs.Qxb6613719a

section
variable (p t : List Int)

theorem J_gx (k : Nat) : gx (p ++ 32 :: t) (p.length + 1 + k) = gx t k := by
  rw [Nat.add_assoc, gx_append_right, Nat.add_comm 1 k, gx_cons_succ]
theorem J_sp : gx (p ++ 32 :: t) p.length = 32 := by
  have := gx_append_right p (32 :: t) 0
  simpa [gx_cons_zero] using this
theorem J_drop (k : Nat) : (p ++ 32 :: t).drop (p.length + 1 + k) = t.drop k := by
  rw [show p.length + 1 + k = p.length + (k + 1) by omega, List.drop_append]
  simp
theorem J_len : (p ++ 32 :: t).length = p.length + 1 + t.length := by simp; omega

theorem J_back : ∀ i, backL (p ++ 32 :: t) (p.length + 1 + i) = backL t i
  | 0 => by
    show backL (p ++ 32 :: t) (p.length + 1) = false
    have h1 : schemeB 32 = false := by decide
    have h2 : letterB 32 = false := by decide
    simp [backL, J_sp, h1, h2]
  | i + 1 => by
    show backL (p ++ 32 :: t) (p.length + 1 + i + 1) = backL t (i + 1)
    simp only [backL, J_gx, J_back i]

theorem J_user (i : Nat) : userEnd (p ++ 32 :: t) (p.length + 1 + i) = p.length + 1 + userEnd t i := by
  unfold userEnd
  rw [show p.length + 1 + i + 3 = p.length + 1 + (i + 3) by omega, J_drop]
  omega
theorem J_pass (s : Nat) : passEnd (p ++ 32 :: t) (p.length + 1 + s) = p.length + 1 + passEnd t s := by
  unfold passEnd
  rw [J_drop]
  omega
theorem J_mid (s e : Nat) : midL (p ++ 32 :: t) (p.length + 1 + s) (p.length + 1 + e) = midL t s e := by
  unfold midL
  rw [J_drop, show p.length + 1 + e - (p.length + 1 + s) = e - s by omega]
theorem J_hit (i : Nat) : hitL (p ++ 32 :: t) (p.length + 1 + i) = hitL t i := by
  unfold hitL
  rw [J_back, J_user, J_gx, show p.length + 1 + userEnd t i + 1 = p.length + 1 + (userEnd t i + 1) by omega, J_pass, J_gx, J_mid, J_len]
  have e1 : decide (p.length + 1 + userEnd t i = p.length + 1 + t.length) = decide (userEnd t i = t.length) := by rw [decide_eq_decide]; omega
  have e2 : decide (p.length + 1 + passEnd t (userEnd t i + 1) = p.length + 1 + t.length) = decide (passEnd t (userEnd t i + 1) = t.length) := by rw [decide_eq_decide]; omega
  rw [e1, e2]
theorem J_anchor (i : Nat) : anchorL (p ++ 32 :: t) (p.length + 1 + i) = anchorL t i := by
  unfold anchorL
  rw [J_gx, show p.length + 1 + i + 1 = p.length + 1 + (i + 1) by omega, J_gx, show p.length + 1 + i + 2 = p.length + 1 + (i + 2) by omega, J_gx]
theorem J_find : ∀ n a, findL (p ++ 32 :: t) n (p.length + 1 + a) = (findL t n a).map (p.length + 1 + ·)
  | 0, a => rfl
  | n + 1, a => by
    simp only [findL, J_hit, J_anchor]
    split
    · rfl
    · exact J_find n (a + 1)
theorem J_search (f : Nat) : searchL (p ++ 32 :: t) (f + (p.length + 1)) = (searchL t f).map (p.length + 1 + ·) := by
  unfold searchL
  rw [J_len, show p.length + 1 + t.length - 2 - (f + (p.length + 1)) = t.length - 2 - f by omega, Nat.add_comm f, J_find]
end

theorem find_ge {zs : List Int} : ∀ {n a i : Nat}, findL zs n a = some i → a ≤ i ∧ hitL zs i = true
  | 0, a, i, h => by simp [findL] at h
  | n + 1, a, i, h => by
    simp only [findL] at h
    split at h
    · rename_i hh
      cases h
      simp only [Bool.and_eq_true] at hh
      exact ⟨Nat.le_refl _, hh.2⟩
    · have := find_ge h
      exact ⟨by omega, this.2⟩

theorem keepsL_nil : keepsL [] = true := rfl

theorem hit_facts {zs : List Int} {i : Nat} (h : hitL zs i = true) : i + 3 ≤ userEnd zs i ∧ userEnd zs i + 1 < passEnd zs (userEnd zs i + 1) ∧ (userEnd zs i + 1 ≤ zs.length → passEnd zs (userEnd zs i + 1) < zs.length) ∧ userEnd zs i ≠ zs.length := by
  simp only [hitL, Bool.and_eq_true, Bool.not_eq_true', decide_eq_false_iff_not] at h
  obtain ⟨⟨⟨⟨⟨hb, hu⟩, h58⟩, hp⟩, h64⟩, hk⟩ := h
  refine ⟨by unfold userEnd; omega, ?_, fun hle => ?_, hu⟩
  · have hge : userEnd zs i + 1 ≤ passEnd zs (userEnd zs i + 1) := by unfold passEnd; omega
    rcases Nat.lt_or_ge (userEnd zs i + 1) (passEnd zs (userEnd zs i + 1)) with h | h
    · exact h
    · have e : passEnd zs (userEnd zs i + 1) = userEnd zs i + 1 := by omega
      rw [e] at hk
      have : midL zs (userEnd zs i + 1) (userEnd zs i + 1) = [] := by simp [midL]
      rw [this, keepsL_nil] at hk
      cases hk
  · have : passEnd zs (userEnd zs i + 1) ≤ zs.length := by
      unfold passEnd
      have := runL_le passB (zs.drop (userEnd zs i + 1))
      simp at this
      omega
    omega

theorem userEnd_le {zs : List Int} {i : Nat} (h : i + 3 ≤ zs.length) : userEnd zs i ≤ zs.length := by
  unfold userEnd
  have := runL_le userB (zs.drop (i + 3))
  simp at this
  omega

theorem find_lt {zs : List Int} : ∀ {n a i : Nat}, findL zs n a = some i → i < a + n
  | 0, a, i, h => by simp [findL] at h
  | n + 1, a, i, h => by
    simp only [findL] at h
    split at h
    · cases h; omega
    · have := find_lt h
      omega

/-- The law. -/
theorem shift_law (p t : List Int) (f : Nat) :
    (spanL t (searchL t f) = (-1, -1) ∧ spanL (p ++ 32 :: t) (searchL (p ++ 32 :: t) (f + (p.length + 1))) = (-1, -1)) ∨
    ∃ s e : Nat, spanL t (searchL t f) = ((s : Int), (e : Int)) ∧ spanL (p ++ 32 :: t) (searchL (p ++ 32 :: t) (f + (p.length + 1))) = ((s : Int) + ((p.length : Int) + 1), (e : Int) + ((p.length : Int) + 1)) ∧ f + 4 ≤ s ∧ s < e ∧ e < t.length := by
  rw [J_search]
  cases h : searchL t f with
  | none => exact .inl ⟨rfl, rfl⟩
  | some i =>
    right
    obtain ⟨hge, hhit⟩ := find_ge h
    have hlt := find_lt h
    obtain ⟨f1, f2, f3, f4⟩ := hit_facts hhit
    have hu : userEnd t i ≤ t.length := userEnd_le (by omega)
    refine ⟨userEnd t i + 1, passEnd t (userEnd t i + 1), rfl, ?_, by omega, f2, f3 (by omega)⟩
    simp only [Option.map_some, spanL, J_user]
    rw [show p.length + 1 + userEnd t i + 1 = p.length + 1 + (userEnd t i + 1) by omega, J_pass]
    refine Prod.ext ?_ ?_ <;> simp only <;> omega
end Go.Proofs.Qxb6613719a
