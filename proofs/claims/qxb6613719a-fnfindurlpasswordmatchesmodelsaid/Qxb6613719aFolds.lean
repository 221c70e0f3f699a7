/- 'spans' at 12 alias bytes; 'hasPrefixFold', 'equalFold'. -/
import Derived.Test.Qxb6613719aRuns
import Derived.Deep.QuietTactic
import Derived.BigQuiet
import Derived.WalkSmall
namespace Go.Proofs.Qxb6613719a
open Go.RowKit
set_option linter.unusedVariables false

theorem spans_alias {B : Nat} {v : Value} {zs : List Int} {w : World} (hv : Sl B w v zs) (hl : zs.length < 4194304) :
    Calls Try.prog 56 #[v, .int .i64 12, .func (.func 57) #[] #[]] w fun e w' => e = .returned (.bool (spansL 12 aliasB zs)) ∧ w' = w := by
  obtain ⟨b, o, c, hb, hc, rfl, hcell⟩ := hv
  by_cases h12 : zs.length < 12
  · go_enter Try.func56, Try.ntmps56
    go_wp2
    go_ret
    refine ⟨retB ?_, rfl⟩
    have := runL_le aliasB zs
    simp [spansL]
    omega
  · have hc12 : 12 ≤ c := by omega
    go_enter Try.func56, Try.ntmps56
    go_wp2
    go_loop [17] (fun i => ∃ k : Nat, k ≤ 12 ∧ i = .int .i64 k ∧ ∀ t, t < k → aliasB (gx zs t) = true) (fun i => 12 - (intOf i).toNat)
    case atStart => exact ⟨0, Nat.zero_le _, rfl, fun t h => absurd h (Nat.not_lt_zero _)⟩
    case round =>
      obtain ⟨k, hk, rfl, hall⟩ := hrel
      have HA : Hid (∀ t, t < k → aliasB (gx zs t) = true) := hall
      clear hall
      by_cases hlt : k < 12
      · have hck := hcell k (by omega)
        cases hp : aliasB (gx zs k)
        all_goals
          go_wp2_with (go_at_call 57; refine calls_same (isAlias_any _ _) ?_; rw [hp])
        · go_ret
          refine ⟨retB ?_, rfl⟩
          rw [spansL, runL_eq aliasB zs k (by omega) HA.out (fun _ => hp)]
          simp
          omega
        · go_round
          case rel => exact ⟨k + 1, by omega, by go_num, fun t ht => by rcases Nat.lt_or_ge t k with h | h; exact HA.out t h; exact (show t = k by omega) ▸ hp⟩
          case measure => simp [intOf]; omega
      · go_wp2
        go_ret
        refine ⟨retB ?_, rfl⟩
        symm
        rw [spansL, decide_eq_true_iff]
        rcases Nat.lt_or_ge (runL aliasB zs) 12 with h | h
        · have a := runL_at aliasB zs (by omega)
          rw [HA.out _ (by omega)] at a
          cases a
        · exact h

/-- A string's bytes as numbers. -/
def wordI (s : ByteArray) : List Int := s.data.toList.map fun x => (x.toNat : Int)
theorem wordI_length (s : ByteArray) : (wordI s).length = s.size := by simp [wordI]
theorem gx_wordI (s : ByteArray) (k : Nat) (h : k < s.size) : gx (wordI s) k = (s[k].toNat : Int) := by
  have h' : k < s.data.toList.length := by simpa using h
  simp only [gx, wordI, List.getD, List.getElem?_map, List.getElem?_eq_getElem h', Option.map_some, Option.getD_some]
  rfl

theorem foldL_iff (zs ws : List Int) (hl : zs.length = ws.length) : foldL zs ws = true ↔ ∀ t, t < ws.length → lowerI (gx zs t) = gx ws t := by
  have e : ∀ t, t < zs.length → gx (zs.map lowerI) t = lowerI (gx zs t) := fun t ht => by simp [gx, List.getD, ht]
  simp only [foldL, beq_iff_eq]
  constructor
  · intro h t ht
    rw [← e t (by omega), h]
  · intro h
    exact gx_ext (by simpa using hl) fun k hk => by
      simp only [List.length_map] at hk
      rw [e k hk, h k (by omega)]

set_option maxHeartbeats 400000 in
theorem prefixFold_any {B : Nat} {v : Value} {zs : List Int} {w : World} (s : ByteArray) (hv : Sl B w v zs) (hl : zs.length < 4194304) (hs : s.size = zs.length) (hby : ∀ k, k < zs.length → 0 ≤ gx zs k ∧ gx zs k ≤ 255) :
    Calls Try.prog 43 #[v, .string s] w fun e w' => e = .returned (.bool (foldL zs (wordI s))) ∧ ∃ n, w' = w.drewN n := by
  obtain ⟨b, o, c, hb, hc, rfl, hcell⟩ := hv
  have HS : Hid (s.size = zs.length) := hs
  have hle : s.size ≤ zs.length := by omega
  have hle2 : zs.length ≤ s.size := by omega
  clear hs
  go_enter Try.func43, Try.ntmps43
  go_wp2
  go_loopw [13] (fun i wr => ∃ k n : Nat, k ≤ s.size ∧ i = .int .i64 k ∧ wr = w.drewN n ∧ ∀ t, t < k → lowerI (gx zs t) = gx (wordI s) t) (fun i _ => s.size - (intOf i).toNat)
  case atStart => exact ⟨0, 0, Nat.zero_le _, rfl, rfl, fun t h => absurd h (Nat.not_lt_zero _)⟩
  case round =>
    obtain ⟨k, n, hk, rfl, hw, hall⟩ := hrel
    have HW : Hid (wr = w.drewN n) := hw
    clear hw
    have HA : Hid (∀ t, t < k → lowerI (gx zs t) = gx (wordI s) t) := hall
    clear hall
    by_cases hlt : k < s.size
    · have hck : wr.cell? ⟨b, o + k, none⟩ = some (.int .u8 (gx zs k)) := by rw [HW.out]; simpa using hcell k (by omega)
      have hby1 := hby k (by omega)
      have hi1 : (k : Int) < (zs.length : Int) := by omega
      have hi2 : (k : Int) < (s.size : Int) := by omega
      cases hp : (lowerI (gx zs k) == (s[k].toNat : Int))
      all_goals
        go_wp2
        go_quiet ((go_at_call 29; exact Calls.quiet_of_same (toLower_any _ _ hby1.1 hby1.2)))
        go_wp2
      · go_ret
        refine ⟨retB ?_, _, by rw [HW.out]; exact World.drewN_drewN _ _ _⟩
        symm
        rw [Bool.eq_false_iff]
        intro h
        have := (foldL_iff zs (wordI s) (by rw [wordI_length, HS.out])).1 h k (by rw [wordI_length]; exact hlt)
        rw [gx_wordI s k hlt] at this
        simp [this] at hp
      · go_roundw
        case rel =>
          refine ⟨k + 1, _, by omega, by go_num, by rw [HW.out]; exact World.drewN_drewN _ _ _, fun t ht => ?_⟩
          rcases Nat.lt_or_ge t k with h | h
          · exact HA.out t h
          · obtain rfl : t = k := by omega
            rw [gx_wordI s t hlt]; simpa using hp
        case measure => simp [intOf]; omega
    · go_wp2
      go_ret
      refine ⟨retB ?_, n, HW.out⟩
      exact ((foldL_iff zs (wordI s) (by rw [wordI_length, HS.out])).2 fun t ht => HA.out t (by rw [wordI_length] at ht; omega)).symm

theorem equalFold_any {B : Nat} {v : Value} {zs : List Int} {w : World} (s : ByteArray) (hv : Sl B w v zs) (hl : zs.length < 4194304) (hs : s.size < 4194304) (hby : ∀ k, k < zs.length → 0 ≤ gx zs k ∧ gx zs k ≤ 255) :
    Calls Try.prog 33 #[v, .string s] w fun e w' => e = .returned (.bool (foldL zs (wordI s))) ∧ ∃ n, w' = w.drewN n := by
  have hv0 := hv
  obtain ⟨b, o, c, hb, hc, rfl, hcell⟩ := hv
  clear hcell
  by_cases h : zs.length = s.size
  · have he : ((zs.length : Int) == (s.size : Int)) = true := by simp; omega
    have hc := prefixFold_any s hv0 hl h.symm hby
    have HH : Hid (zs.length = s.size) := h
    clear h
    go_enter Try.func33, Try.ntmps33
    go_wp2_with (fail)
    refine hc.mono ?_
    rintro e w' ⟨rfl, n, rfl⟩
    go_wp2
    go_ret
    exact ⟨rfl, n, rfl⟩
  · have he : ((zs.length : Int) == (s.size : Int)) = false := by simp; omega
    go_enter Try.func33, Try.ntmps33
    go_wp2
    go_ret
    refine ⟨retB ?_, 0, rfl⟩
    symm
    rw [Bool.eq_false_iff, foldL]
    intro h'
    rw [beq_iff_eq] at h'
    have := congrArg List.length h'
    simp [wordI_length] at this
    exact h this
end Go.Proofs.Qxb6613719a
