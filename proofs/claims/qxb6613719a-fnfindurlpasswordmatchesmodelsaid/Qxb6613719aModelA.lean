/- The model's own functions, walked: classes, words, kinds, aliases. -/
import Derived.Test.Qxb6613719aModelMarks
import Derived.Test.Qxb6613719aAt
namespace Go.Proofs.Qxb6613719a
open Go.RowKit
set_option linter.unusedVariables false
set_option linter.unusedSimpArgs false

theorem mLetter_any (c : Int) (w : World) : Calls Try.prog 24 #[.int .u8 c] w fun e w' => e = .returned (.bool (letterB c)) ∧ w' = w := by
  go_enter Try.func24, Try.ntmps24
  go_wp2
  all_goals go_ret
  all_goals refine ⟨retB ?_, rfl⟩
  all_goals (rw [Bool.eq_iff_iff]; simp [letterB, upperB, lowB] <;> omega)

theorem mSpace_any (c : Int) (w : World) : Calls Try.prog 25 #[.int .u8 c] w fun e w' => e = .returned (.bool (spaceB c)) ∧ w' = w := by
  go_enter Try.func25, Try.ntmps25
  go_wp2
  all_goals go_ret
  all_goals refine ⟨retB ?_, rfl⟩
  all_goals (rw [Bool.eq_iff_iff]; (try simp only [beq_iff_eq, beq_eq_false_iff_ne] at *); simp [spaceB] <;> omega)

theorem scheme_alt (c : Int) : schemeB c = (letterB c || digitB c || c == 43 || c == 46 || c == 45) := by
  rw [schemeB, alnumB, letterB]
  cases upperB c <;> cases digitB c <;> cases lowB c <;> rfl

theorem mScheme_any (c : Int) (w : World) : Calls Try.prog 23 #[.int .u8 c] w fun e w' => e = .returned (.bool (schemeB c)) ∧ w' = w := by
  cases h : letterB c
  all_goals
    go_enter Try.func23, Try.ntmps23
    go_wp2_with (go_at_call 24; refine calls_same (mLetter_any _ _) ?_; rw [h])
    all_goals go_ret
    all_goals refine ⟨retB ?_, rfl⟩
    all_goals first | decide | (rw [Bool.eq_iff_iff, scheme_alt, h]; (try simp only [beq_iff_eq, beq_eq_false_iff_ne] at *); simp [digitB] <;> omega)

set_option maxHeartbeats 400000 in
theorem mFold_any {B : Nat} {v : Value} {zs : List Int} {w : World} (s : ByteArray) (hv : Sl B w v zs) (hl : zs.length < 4194304) (hs : s.size < 4194304) (hby : ByteL zs) :
    Calls Try.prog 40 #[v, .string s] w fun e w' => e = .returned (.bool (foldL zs (wordI s))) ∧ w' = w := by
  obtain ⟨b, o, c, hb, hc, rfl, hcell⟩ := hv
  by_cases h : zs.length = s.size
  · have he : ((zs.length : Int) != (s.size : Int)) = false := by simp; omega
    have HS : Hid (zs.length = s.size) := h
    have hle : s.size ≤ zs.length := by omega
    have hle2 : zs.length ≤ s.size := by omega
    clear h
    go_enter Try.func40, Try.ntmps40
    go_wp2
    go_loop [5] (fun i => ∃ k : Nat, k ≤ zs.length ∧ i = .int .i64 k ∧ ∀ t, t < k → lowerI (gx zs t) = gx (wordI s) t) (fun i => zs.length - (intOf i).toNat)
    case atStart => exact ⟨0, Nat.zero_le _, rfl, fun t h => absurd h (Nat.not_lt_zero _)⟩
    case round =>
      obtain ⟨k, hk, rfl, hall⟩ := hrel
      have HA : Hid (∀ t, t < k → lowerI (gx zs t) = gx (wordI s) t) := hall
      clear hall
      by_cases hlt : k < zs.length
      · have hck := hcell k hlt
        have hby1 := hby k hlt
        have hi2 : k < s.size := by omega
        have hwk := gx_wordI s k hi2
        cases hup : upperB (gx zs k)
        · have hlo : lowerI (gx zs k) = gx zs k := by simp [lowerI, hup]
          have hup' : ¬ (65 ≤ gx zs k ∧ gx zs k ≤ 90) := by simp [upperB] at hup; omega
          cases hp : (gx zs k == (s[k].toNat : Int))
          · have hp' : (gx zs k != (s[k].toNat : Int)) = true := by simp [bne, hp]
            have HW : Hid _ := hwk
            have HL : Hid _ := hlo
            clear hwk hlo hcell
            go_wp2
            all_goals go_ret
            all_goals
              refine ⟨retB ?_, rfl⟩
              symm
              rw [Bool.eq_false_iff]
              intro h
              have := (foldL_iff zs (wordI s) (by rw [wordI_length, HS.out])).1 h k (by rw [wordI_length]; exact hi2)
              rw [HW.out, HL.out] at this
              simp [this] at hp
          · have hp' : (gx zs k != (s[k].toNat : Int)) = false := by simp [bne, hp]
            have HW : Hid _ := hwk
            have HL : Hid _ := hlo
            clear hwk hlo
            go_wp2
            all_goals
              go_round
              case rel =>
                refine ⟨k + 1, by omega, by go_num, fun t ht => ?_⟩
                rcases Nat.lt_or_ge t k with h | h
                · exact HA.out t h
                · obtain rfl : t = k := by omega
                  rw [HW.out, HL.out]; simpa using hp
              case measure => simp [intOf]; omega
        · have hlo : lowerI (gx zs k) = gx zs k + 32 := by simp [lowerI, hup]
          have hup' : 65 ≤ gx zs k ∧ gx zs k ≤ 90 := by simp [upperB] at hup; omega
          cases hp : (gx zs k + 32 == (s[k].toNat : Int))
          · have hp' : (gx zs k + 32 != (s[k].toNat : Int)) = true := by simp [bne, hp]
            have HW : Hid _ := hwk
            have HL : Hid _ := hlo
            clear hwk hlo hcell
            go_wp2
            all_goals go_ret
            all_goals
              refine ⟨retB ?_, rfl⟩
              symm
              rw [Bool.eq_false_iff]
              intro h
              have := (foldL_iff zs (wordI s) (by rw [wordI_length, HS.out])).1 h k (by rw [wordI_length]; exact hi2)
              rw [HW.out, HL.out] at this
              simp [this] at hp
          · have hp' : (gx zs k + 32 != (s[k].toNat : Int)) = false := by simp [bne, hp]
            have HW : Hid _ := hwk
            have HL : Hid _ := hlo
            clear hwk hlo
            go_wp2
            all_goals
              go_round
              case rel =>
                refine ⟨k + 1, by omega, by go_num, fun t ht => ?_⟩
                rcases Nat.lt_or_ge t k with h | h
                · exact HA.out t h
                · obtain rfl : t = k := by omega
                  rw [HW.out, HL.out]; simpa using hp
              case measure => simp [intOf]; omega
      · go_wp2
        go_ret
        refine ⟨retB ?_, rfl⟩
        exact ((foldL_iff zs (wordI s) (by rw [wordI_length, HS.out])).2 fun t ht => HA.out t (by rw [wordI_length] at ht; omega)).symm
  · have he : ((zs.length : Int) != (s.size : Int)) = true := by simp; omega
    clear hcell
    go_enter Try.func40, Try.ntmps40
    go_wp2
    go_ret
    refine ⟨retB ?_, rfl⟩
    symm
    rw [Bool.eq_false_iff, foldL]
    intro h'
    rw [beq_iff_eq] at h'
    have := congrArg List.length h'
    simp [wordI_length] at this
    exact h this

theorem mKind_any {B : Nat} {v : Value} {zs : List Int} {w : World} (hv : Sl B w v zs) (hl : zs.length < 4194304) :
    Calls Try.prog 52 #[v] w fun e w' => e = .returned (.bool (kindWordL zs)) ∧ w' = w := by
  obtain ⟨b, o, c, hb, hc, rfl, hcell⟩ := hv
  by_cases h0 : zs.length = 0
  · have e0 : ((zs.length : Int) == 0) = true := by rw [h0]; rfl
    have H0 : Hid _ := h0
    clear h0 hcell
    go_enter Try.func52, Try.ntmps52
    go_wp2
    go_ret
    exact ⟨retB (by simp [kindWordL, H0.out]), rfl⟩
  · have e0 : ((zs.length : Int) == 0) = false := by rw [beq_eq_false_iff_ne]; omega
    go_enter Try.func52, Try.ntmps52
    go_wp2
    go_loop [3] (fun i => ∃ k : Nat, k ≤ zs.length ∧ i = .int .i64 k ∧ ∀ t, t < k → kindB (gx zs t) = true) (fun i => zs.length - (intOf i).toNat)
    case atStart => exact ⟨0, Nat.zero_le _, rfl, fun t h => absurd h (Nat.not_lt_zero _)⟩
    case round =>
      obtain ⟨k, hk, rfl, hall⟩ := hrel
      have HA : Hid (∀ t, t < k → kindB (gx zs t) = true) := hall
      clear hall
      by_cases hlt : k < zs.length
      · have hck := hcell k hlt
        clear hcell
        have bad : Hid (kindB (gx zs k) = false → false = kindWordL zs) := fun hp => by
          symm
          rw [Bool.eq_false_iff, ne_eq, kindWordL_iff, runL_eq kindB zs k hk HA.out (fun _ => hp)]
          omega
        rcases (show (97 ≤ gx zs k ∧ gx zs k ≤ 122) ∨ (48 ≤ gx zs k ∧ gx zs k ≤ 57) ∨ (45 ≤ gx zs k ∧ gx zs k ≤ 45) ∨ (gx zs k < 45) ∨ (45 < gx zs k ∧ gx zs k < 48) ∨ (57 < gx zs k ∧ gx zs k < 97) ∨ (122 < gx zs k) by omega) with hx0 | hx1 | hx2 | hx3 | hx4 | hx5 | hx6
        · have hp : kindB (gx zs k) = true := by simp [kindB, lowB, digitB]; omega
          have h45 : (gx zs k == 45) = false := by rw [beq_eq_false_iff_ne]; omega
          go_wp2
          go_round
          case rel => exact ⟨k + 1, by omega, by go_num, fun t ht => by rcases Nat.lt_or_ge t k with h | h; exact HA.out t h; exact (show t = k by omega) ▸ hp⟩
          case measure => simp [intOf]; omega
        · have hp : kindB (gx zs k) = true := by simp [kindB, lowB, digitB]; omega
          have h45 : (gx zs k == 45) = false := by rw [beq_eq_false_iff_ne]; omega
          go_wp2
          go_round
          case rel => exact ⟨k + 1, by omega, by go_num, fun t ht => by rcases Nat.lt_or_ge t k with h | h; exact HA.out t h; exact (show t = k by omega) ▸ hp⟩
          case measure => simp [intOf]; omega
        · have hp : kindB (gx zs k) = true := by simp [kindB, lowB, digitB]; omega
          have h45 : (gx zs k == 45) = true := by rw [beq_iff_eq]; omega
          go_wp2
          go_round
          case rel => exact ⟨k + 1, by omega, by go_num, fun t ht => by rcases Nat.lt_or_ge t k with h | h; exact HA.out t h; exact (show t = k by omega) ▸ hp⟩
          case measure => simp [intOf]; omega
        · have hp : kindB (gx zs k) = false := by rw [Bool.eq_false_iff]; simp [kindB, lowB, digitB]; omega
          have h45 : (gx zs k == 45) = false := by rw [beq_eq_false_iff_ne]; omega
          go_wp2
          all_goals first | (exfalso; clear hck; simp only [Bool.not_eq_false', decide_eq_true_eq] at *; omega) | (go_ret; exact ⟨retB (bad.out hp), rfl⟩)
        · have hp : kindB (gx zs k) = false := by rw [Bool.eq_false_iff]; simp [kindB, lowB, digitB]; omega
          have h45 : (gx zs k == 45) = false := by rw [beq_eq_false_iff_ne]; omega
          go_wp2
          all_goals first | (exfalso; clear hck; simp only [Bool.not_eq_false', decide_eq_true_eq] at *; omega) | (go_ret; exact ⟨retB (bad.out hp), rfl⟩)
        · have hp : kindB (gx zs k) = false := by rw [Bool.eq_false_iff]; simp [kindB, lowB, digitB]; omega
          have h45 : (gx zs k == 45) = false := by rw [beq_eq_false_iff_ne]; omega
          go_wp2
          all_goals first | (exfalso; clear hck; simp only [Bool.not_eq_false', decide_eq_true_eq] at *; omega) | (go_ret; exact ⟨retB (bad.out hp), rfl⟩)
        · have hp : kindB (gx zs k) = false := by rw [Bool.eq_false_iff]; simp [kindB, lowB, digitB]; omega
          have h45 : (gx zs k == 45) = false := by rw [beq_eq_false_iff_ne]; omega
          go_wp2
          all_goals first | (exfalso; clear hck; simp only [Bool.not_eq_false', decide_eq_true_eq] at *; omega) | (go_ret; exact ⟨retB (bad.out hp), rfl⟩)
      · clear hcell
        go_wp2
        go_ret
        refine ⟨retB ?_, rfl⟩
        symm
        rw [kindWordL_iff]
        exact ⟨h0, runL_eq kindB zs zs.length (Nat.le_refl _) (fun t ht => HA.out t (by omega)) (fun h => absurd h (Nat.lt_irrefl _))⟩

theorem mAlias_any {B : Nat} {v : Value} {zs : List Int} {w : World} (hv : Sl B w v zs) (hl : zs.length < 4194304) :
    Calls Try.prog 53 #[v] w fun e w' => e = .returned (.bool (aliasL zs)) ∧ w' = w := by
  obtain ⟨b, o, c, hb, hc, rfl, hcell⟩ := hv
  by_cases h0 : zs.length = 12
  · have e0 : ((zs.length : Int) != 12) = false := by rw [h0]; rfl
    have H0 : Hid _ := h0
    clear h0
    go_enter Try.func53, Try.ntmps53
    go_wp2
    go_loop [3] (fun i => ∃ k : Nat, k ≤ zs.length ∧ i = .int .i64 k ∧ ∀ t, t < k → aliasB (gx zs t) = true) (fun i => zs.length - (intOf i).toNat)
    case atStart => exact ⟨0, Nat.zero_le _, rfl, fun t h => absurd h (Nat.not_lt_zero _)⟩
    case round =>
      obtain ⟨k, hk, rfl, hall⟩ := hrel
      have HA : Hid (∀ t, t < k → aliasB (gx zs t) = true) := hall
      clear hall
      by_cases hlt : k < zs.length
      · have hck := hcell k hlt
        clear hcell
        have bad : Hid (aliasB (gx zs k) = false → false = aliasL zs) := fun hp => by
          symm
          rw [Bool.eq_false_iff, ne_eq, aliasL_iff, runL_eq aliasB zs k hk HA.out (fun _ => hp)]
          omega
        rcases (show (48 ≤ gx zs k ∧ gx zs k ≤ 57) ∨ (97 ≤ gx zs k ∧ gx zs k ≤ 102) ∨ (gx zs k < 48) ∨ (57 < gx zs k ∧ gx zs k < 97) ∨ (102 < gx zs k) by omega) with hx0 | hx1 | hx2 | hx3 | hx4
        · have hp : aliasB (gx zs k) = true := by simp [aliasB, digitB]; omega
          go_wp2
          go_round
          case rel => exact ⟨k + 1, by omega, by go_num, fun t ht => by rcases Nat.lt_or_ge t k with h | h; exact HA.out t h; exact (show t = k by omega) ▸ hp⟩
          case measure => simp [intOf]; omega
        · have hp : aliasB (gx zs k) = true := by simp [aliasB, digitB]; omega
          go_wp2
          go_round
          case rel => exact ⟨k + 1, by omega, by go_num, fun t ht => by rcases Nat.lt_or_ge t k with h | h; exact HA.out t h; exact (show t = k by omega) ▸ hp⟩
          case measure => simp [intOf]; omega
        · have hp : aliasB (gx zs k) = false := by rw [Bool.eq_false_iff]; simp [aliasB, digitB]; omega
          go_wp2
          all_goals first | (exfalso; clear hck; simp only [Bool.not_eq_false', decide_eq_true_eq] at *; omega) | (go_ret; exact ⟨retB (bad.out hp), rfl⟩)
        · have hp : aliasB (gx zs k) = false := by rw [Bool.eq_false_iff]; simp [aliasB, digitB]; omega
          go_wp2
          all_goals first | (exfalso; clear hck; simp only [Bool.not_eq_false', decide_eq_true_eq] at *; omega) | (go_ret; exact ⟨retB (bad.out hp), rfl⟩)
        · have hp : aliasB (gx zs k) = false := by rw [Bool.eq_false_iff]; simp [aliasB, digitB]; omega
          go_wp2
          all_goals first | (exfalso; clear hck; simp only [Bool.not_eq_false', decide_eq_true_eq] at *; omega) | (go_ret; exact ⟨retB (bad.out hp), rfl⟩)
      · clear hcell
        go_wp2
        go_ret
        refine ⟨retB ?_, rfl⟩
        symm
        rw [aliasL_iff]
        exact ⟨H0.out, runL_eq aliasB zs zs.length (Nat.le_refl _) (fun t ht => HA.out t (by omega)) (fun h => absurd h (Nat.lt_irrefl _))⟩
  · have e0 : ((zs.length : Int) != 12) = true := by rw [bne_iff_ne]; omega
    clear hcell
    go_enter Try.func53, Try.ntmps53
    go_wp2
    go_ret
    exact ⟨retB (by simp [aliasL, h0]), rfl⟩
end Go.Proofs.Qxb6613719a
