/- Slices told by what they hold; 'run' at the four classes, 'spans'. -/
import Derived.Test.Qxb6613719aPreds
namespace Go.Proofs.Qxb6613719a
open Go.RowKit

/-- The slice value v holds the bytes zs, in a block below B. -/
def Sl (B : Nat) (w : World) (v : Value) (zs : List Int) : Prop :=
  ∃ b o c, b < B ∧ zs.length ≤ c ∧ v = .slice (some ⟨b, o, none⟩) zs.length c ∧ ∀ i, i < zs.length → w.cell? ⟨b, o + i, none⟩ = some (.int .u8 (gx zs i))

theorem Sl.below {B : Nat} {w w' : World} {v : Value} {zs : List Int} (h : Sl B w v zs) (hb : Below B w w') : Sl B w' v zs := by
  obtain ⟨b, o, c, h1, h2, h3, h4⟩ := h
  exact ⟨b, o, c, h1, h2, h3, fun i hi => (hb.cell (p := ⟨b, o + i, none⟩) h1).trans (h4 i hi)⟩

theorem run_userB {B : Nat} {v : Value} {zs : List Int} {w : World} (hv : Sl B w v zs) (hl : zs.length < 4194304) :
    Calls Try.prog 30 #[v, .func (.func 37) #[] #[]] w fun e w' => e = .returned (.int .i64 (runL userB zs : Nat)) ∧ w' = w := by
  obtain ⟨b, o, c, hb, hc, rfl, hcell⟩ := hv
  go_enter Try.func30, Try.ntmps30
  go_wp2
  go_loop [9] (fun i => ∃ k : Nat, k ≤ zs.length ∧ i = .int .i64 k ∧ ∀ t, t < k → userB (gx zs t) = true) (fun i => zs.length - (intOf i).toNat)
  case atStart => exact ⟨0, Nat.zero_le _, rfl, fun t h => absurd h (Nat.not_lt_zero _)⟩
  case round =>
    obtain ⟨k, hk, rfl, hall⟩ := hrel
    have HA : Hid (∀ t, t < k → userB (gx zs t) = true) := hall
    clear hall
    by_cases hlt : k < zs.length
    · have hck := hcell k hlt
      cases hp : userB (gx zs k)
      all_goals
        go_wp2_with (go_at_call 37; refine calls_same (isUser_any _ _) ?_; rw [hp])
      · go_ret
        exact ⟨retI (by rw [runL_eq userB zs k hk HA.out (fun _ => hp)]), rfl⟩
      · go_round
        case rel => exact ⟨k + 1, by omega, by go_num, fun t ht => by rcases Nat.lt_or_ge t k with h | h; exact HA.out t h; exact (show t = k by omega) ▸ hp⟩
        case measure => simp [intOf]; omega
    · go_wp2
      go_ret
      exact ⟨retI (by rw [runL_eq userB zs zs.length (Nat.le_refl _) (fun t ht => HA.out t (by omega)) (fun h => absurd h (Nat.lt_irrefl _))]), rfl⟩

theorem run_passB {B : Nat} {v : Value} {zs : List Int} {w : World} (hv : Sl B w v zs) (hl : zs.length < 4194304) :
    Calls Try.prog 30 #[v, .func (.func 38) #[] #[]] w fun e w' => e = .returned (.int .i64 (runL passB zs : Nat)) ∧ w' = w := by
  obtain ⟨b, o, c, hb, hc, rfl, hcell⟩ := hv
  go_enter Try.func30, Try.ntmps30
  go_wp2
  go_loop [9] (fun i => ∃ k : Nat, k ≤ zs.length ∧ i = .int .i64 k ∧ ∀ t, t < k → passB (gx zs t) = true) (fun i => zs.length - (intOf i).toNat)
  case atStart => exact ⟨0, Nat.zero_le _, rfl, fun t h => absurd h (Nat.not_lt_zero _)⟩
  case round =>
    obtain ⟨k, hk, rfl, hall⟩ := hrel
    have HA : Hid (∀ t, t < k → passB (gx zs t) = true) := hall
    clear hall
    by_cases hlt : k < zs.length
    · have hck := hcell k hlt
      cases hp : passB (gx zs k)
      all_goals
        go_wp2_with (go_at_call 38; refine calls_same (isPass_any _ _) ?_; rw [hp])
      · go_ret
        exact ⟨retI (by rw [runL_eq passB zs k hk HA.out (fun _ => hp)]), rfl⟩
      · go_round
        case rel => exact ⟨k + 1, by omega, by go_num, fun t ht => by rcases Nat.lt_or_ge t k with h | h; exact HA.out t h; exact (show t = k by omega) ▸ hp⟩
        case measure => simp [intOf]; omega
    · go_wp2
      go_ret
      exact ⟨retI (by rw [runL_eq passB zs zs.length (Nat.le_refl _) (fun t ht => HA.out t (by omega)) (fun h => absurd h (Nat.lt_irrefl _))]), rfl⟩

theorem run_starB {B : Nat} {v : Value} {zs : List Int} {w : World} (hv : Sl B w v zs) (hl : zs.length < 4194304) :
    Calls Try.prog 30 #[v, .func (.func 46) #[] #[]] w fun e w' => e = .returned (.int .i64 (runL starB zs : Nat)) ∧ w' = w := by
  obtain ⟨b, o, c, hb, hc, rfl, hcell⟩ := hv
  go_enter Try.func30, Try.ntmps30
  go_wp2
  go_loop [9] (fun i => ∃ k : Nat, k ≤ zs.length ∧ i = .int .i64 k ∧ ∀ t, t < k → starB (gx zs t) = true) (fun i => zs.length - (intOf i).toNat)
  case atStart => exact ⟨0, Nat.zero_le _, rfl, fun t h => absurd h (Nat.not_lt_zero _)⟩
  case round =>
    obtain ⟨k, hk, rfl, hall⟩ := hrel
    have HA : Hid (∀ t, t < k → starB (gx zs t) = true) := hall
    clear hall
    by_cases hlt : k < zs.length
    · have hck := hcell k hlt
      cases hp : starB (gx zs k)
      all_goals
        go_wp2_with (go_at_call 46; refine calls_same (isStar_any _ _) ?_; rw [hp])
      · go_ret
        exact ⟨retI (by rw [runL_eq starB zs k hk HA.out (fun _ => hp)]), rfl⟩
      · go_round
        case rel => exact ⟨k + 1, by omega, by go_num, fun t ht => by rcases Nat.lt_or_ge t k with h | h; exact HA.out t h; exact (show t = k by omega) ▸ hp⟩
        case measure => simp [intOf]; omega
    · go_wp2
      go_ret
      exact ⟨retI (by rw [runL_eq starB zs zs.length (Nat.le_refl _) (fun t ht => HA.out t (by omega)) (fun h => absurd h (Nat.lt_irrefl _))]), rfl⟩

theorem run_kindB {B : Nat} {v : Value} {zs : List Int} {w : World} (hv : Sl B w v zs) (hl : zs.length < 4194304) :
    Calls Try.prog 30 #[v, .func (.func 55) #[] #[]] w fun e w' => e = .returned (.int .i64 (runL kindB zs : Nat)) ∧ w' = w := by
  obtain ⟨b, o, c, hb, hc, rfl, hcell⟩ := hv
  go_enter Try.func30, Try.ntmps30
  go_wp2
  go_loop [9] (fun i => ∃ k : Nat, k ≤ zs.length ∧ i = .int .i64 k ∧ ∀ t, t < k → kindB (gx zs t) = true) (fun i => zs.length - (intOf i).toNat)
  case atStart => exact ⟨0, Nat.zero_le _, rfl, fun t h => absurd h (Nat.not_lt_zero _)⟩
  case round =>
    obtain ⟨k, hk, rfl, hall⟩ := hrel
    have HA : Hid (∀ t, t < k → kindB (gx zs t) = true) := hall
    clear hall
    by_cases hlt : k < zs.length
    · have hck := hcell k hlt
      cases hp : kindB (gx zs k)
      all_goals
        go_wp2_with (go_at_call 55; refine calls_same (isKind_any _ _) ?_; rw [hp])
      · go_ret
        exact ⟨retI (by rw [runL_eq kindB zs k hk HA.out (fun _ => hp)]), rfl⟩
      · go_round
        case rel => exact ⟨k + 1, by omega, by go_num, fun t ht => by rcases Nat.lt_or_ge t k with h | h; exact HA.out t h; exact (show t = k by omega) ▸ hp⟩
        case measure => simp [intOf]; omega
    · go_wp2
      go_ret
      exact ⟨retI (by rw [runL_eq kindB zs zs.length (Nat.le_refl _) (fun t ht => HA.out t (by omega)) (fun h => absurd h (Nat.lt_irrefl _))]), rfl⟩

end Go.Proofs.Qxb6613719a
