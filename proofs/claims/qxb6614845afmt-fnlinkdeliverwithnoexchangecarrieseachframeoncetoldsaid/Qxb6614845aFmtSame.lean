/- 'sameOctets' at equal octets; the law's bound on total length. -/
import Derived.Test.Qxb6614845aFmtLink
namespace Go.Proofs.Qxb6614845aFmt
open Go.RowKit Go.Extern.Stop Go.Stop Go.Extern
set_option linter.unusedVariables false

/-- Some bool; where it is true, P. -/
def IsB (P : Prop) (e : Ending) : Prop := ∃ r, e = .returned (.bool r) ∧ (r = true → P)

def gx (zs : List Int) (k : Nat) : Int := zs.getD k 0

set_option maxHeartbeats 400000 in
theorem same_any (g b o c1 c2 : Nat) (T : List Int) (w : World) (hl : T.length < 4194304)
    (h1 : ∀ i, i < T.length → w.cell? ⟨g, i, none⟩ = some (.int .u8 (gx T i))) (h2 : ∀ i, i < T.length → w.cell? ⟨b, o + i, none⟩ = some (.int .u8 (gx T i))) :
    Calls Tryf.prog 7 #[.slice (some ⟨g, 0, none⟩) T.length c1, .slice (some ⟨b, o, none⟩) T.length c2] w fun e w' => e = .returned (.bool true) ∧ ∃ n, w' = w.drewN n := by
  have e0 : ((T.length : Int) != (T.length : Int)) = false := by simp
  go_enter Tryf.func7, Tryf.ntmps7
  go_wp2
  go_loopw [5] (fun i wr => ∃ k n : Nat, k ≤ T.length ∧ i = .int .i64 k ∧ wr = w.drewN n) (fun i _ => T.length - (intOf i).toNat)
  case atStart => exact ⟨0, 0, Nat.zero_le _, rfl, rfl⟩
  case round =>
    obtain ⟨k, n, hk, rfl, hw⟩ := hrel
    have HW : Hid (wr = w.drewN n) := hw
    clear hw
    by_cases hlt : k < T.length
    · have c1' : wr.cell? ⟨g, k, none⟩ = some (.int .u8 (gx T k)) := by rw [HW.out]; simpa using h1 k hlt
      have c2' : wr.cell? ⟨b, o + k, none⟩ = some (.int .u8 (gx T k)) := by rw [HW.out]; simpa using h2 k hlt
      have hi1 : (k : Int) < (T.length : Int) := by omega
      have e1 : (gx T k != gx T k) = false := by simp
      clear h1 h2
      go_wp2
      go_quiet (fail)
      go_wp2
      go_roundw
      case rel => exact ⟨k + 1, _, by omega, by go_num, by rw [HW.out]; exact World.drewN_drewN _ _ _⟩
      case measure => simp [intOf]; omega
    · go_wp2
      go_ret
      exact ⟨rfl, n, HW.out⟩

theorem same_empty (a b : Option Addr) (c1 c2 : Nat) (w : World) :
    Calls Tryf.prog 7 #[.slice a 0 c1, .slice b 0 c2] w fun e w' => e = .returned (.bool true) ∧ ∃ n, w' = w.drewN n := by
  go_enter Tryf.func7, Tryf.ntmps7
  go_wp2
  refine wp_loop_rounds 1 ?_
  rw [rounds_succ]
  go_wp2
  go_ret
  exact ⟨rfl, 0, rfl⟩

set_option maxHeartbeats 400000 in
theorem bytes_any (xb xo N cap : Nat) (A : Nat → Option Addr) (L C : Nat → Nat) (w : World) (hN : N ≤ maxLen) (hLm : ∀ r, r < N → L r ≤ maxLen)
    (hx : ∀ r, r < N → w.cell? ⟨xb, xo + r, none⟩ = some (.slice (A r) (L r) (C r))) :
    Calls Tryf.prog 4 #[.slice (some ⟨xb, xo, none⟩) N cap] w fun e w' => IsB (∀ t, t < N → L t ≤ 1048576) e ∧ w' = w := by
  unfold maxLen at hN
  by_cases hbig : N ≤ 1048576
  · go_enter Tryf.func4, Tryf.ntmps4
    go_wp2
    go_loop [3, 4] (fun s i => ∃ (k : Nat) (z : Int), k ≤ N ∧ 0 ≤ z ∧ z ≤ 1048576 ∧ s = .int .i64 z ∧ i = .int .i64 k ∧ ∀ t, t < k → L t ≤ 1048576) (fun _ i => N - (intOf i).toNat)
    case atStart => exact ⟨0, _, Nat.zero_le _, by omega, by omega, rfl, rfl, fun t h => absurd h (Nat.not_lt_zero _)⟩
    case round =>
      obtain ⟨k, z, hk, hz0, hz1, rfl, rfl, hall⟩ := hrel
      have HL : Hid (∀ t, t < k → L t ≤ 1048576) := hall
      clear hall
      by_cases hlt : k < N
      · have hck := hx k hlt
        have hm := hLm k hlt
        unfold maxLen at hm
        clear hx hLm
        by_cases hLk : L k ≤ 1048576
        · by_cases hs : z + (L k : Int) ≤ 1048576
          · go_wp2
            go_round
            case rel => exact ⟨k + 1, z + (L k : Int), by omega, by omega, by omega, rfl, by go_num, fun t ht => (Nat.lt_or_ge t k).elim (fun h => HL.out t h) (fun h => (show t = k by omega) ▸ hLk)⟩
            case measure => simp [intOf]; omega
          · go_wp2
            go_ret
            exact ⟨⟨false, rfl, fun h => by cases h⟩, rfl⟩
        · go_wp2
          go_ret
          exact ⟨⟨false, rfl, fun h => by cases h⟩, rfl⟩
      · clear hx hLm
        go_wp2
        go_ret
        exact ⟨⟨true, rfl, fun _ t ht => HL.out t (by omega)⟩, rfl⟩
  · clear hx hLm
    go_enter Tryf.func4, Tryf.ntmps4
    go_wp2
    go_ret
    exact ⟨⟨false, rfl, fun h => by cases h⟩, rfl⟩

theorem bytes_empty (a : Option Addr) (cap : Nat) (w : World) :
    Calls Tryf.prog 4 #[.slice a 0 cap] w fun e w' => e = .returned (.bool true) ∧ w' = w := by
  go_enter Tryf.func4, Tryf.ntmps4
  go_wp2
  refine wp_loop_rounds 1 ?_
  rw [rounds_succ]
  go_wp2
  go_ret
  exact ⟨rfl, rfl⟩
end Go.Proofs.Qxb6614845aFmt
