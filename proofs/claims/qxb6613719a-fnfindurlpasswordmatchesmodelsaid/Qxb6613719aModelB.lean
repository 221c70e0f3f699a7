/- The model's zzURLMarker. -/
import Derived.Test.Qxb6613719aModelA
namespace Go.Proofs.Qxb6613719a
open Go.RowKit
set_option linter.unusedVariables false
set_option linter.unusedSimpArgs false

def openS : ByteArray := { data := #[91, 82, 69, 68, 65, 67, 84, 69, 68, 58] }
theorem openS_word : wordI openS = openL := by rfl

theorem take_open {zs : List Int} (h : 10 ≤ zs.length) : (zs.take 10 == openL) = true ↔ ∀ t, t < 10 → gx zs t = gx openL t := by
  rw [beq_iff_eq]
  constructor
  · intro e t ht
    rw [← gx_take zs 10 t ht, e]
  · intro e
    have hl : (zs.take 10).length = 10 := by simp; omega
    exact gx_ext (by rw [hl]; rfl) fun k hk => by rw [gx_take _ _ _ (by omega)]; exact e k (by omega)

theorem slice_to (b o n c hi : Nat) (hn : hi ≤ c) (W : World) :
    (Instr.slice 22 (.slice (some ⟨b, o, none⟩) n c) none (some (.int .i64 (hi : Int))) none).run Try.prog W = .ok (.slice (some ⟨b, o, none⟩) hi c) W := by
  have ht : Try.prog.underlying 22 = some (.slice (Try.prog.elem 22)) := by simp [Program.elem, Try.underlying22]
  have he : Try.prog.elem 22 = 5 := by simp [Program.elem, Try.underlying22]
  rw [run_slice_h W 22 _ _ _ ht .i64 _ (by omega) (by omega), he, sizeU8]
  by_cases h : c = 0
  · simp [Result.andThen, sliced, h]
  · simp [Result.andThen, sliced, h, Addr.add]

set_option maxHeartbeats 1000000 in
theorem mMarker_any {B : Nat} {v : Value} {zs : List Int} {w : World} (hv : Sl B w v zs) (hl : zs.length < 4194304) (hby : ByteL zs) :
    Calls Try.prog 48 #[v] w fun e w' => e = .returned (.bool (pieceL zs)) ∧ Below B w w' := by
  obtain ⟨b, o, c, hb, hc, rfl, hcell⟩ := hv
  by_cases h10 : zs.length < 10
  · clear hcell
    go_enter Try.func48, Try.ntmps48
    go_wp2
    go_ret
    refine ⟨retB ?_, Below.refl _ _⟩
    have : (zs.take 10 == openL) = false := by
      rw [beq_eq_false_iff_ne]
      intro e
      have := congrArg List.length e
      simp [openL] at this
      omega
    simp [pieceL, this]
  · have h10' : 10 ≤ zs.length := by omega
    go_enter Try.func48, Try.ntmps48
    go_wp2
    go_loopw [4] (fun i wr => ∃ k n : Nat, k ≤ 10 ∧ i = .int .i64 k ∧ wr = w.drewN n ∧ ∀ t, t < k → gx zs t = gx openL t) (fun i _ => 10 - (intOf i).toNat)
    case atStart => exact ⟨0, 0, Nat.zero_le _, rfl, rfl, fun t h => absurd h (Nat.not_lt_zero _)⟩
    case round =>
      obtain ⟨k, n, hk, rfl, hw, hall⟩ := hrel
      have HW : Hid (wr = w.drewN n) := hw
      clear hw
      have HA : Hid (∀ t, t < k → gx zs t = gx openL t) := hall
      clear hall
      have hbr : Below B w wr := by rw [HW.out]; exact below_drewN (Below.refl _ _) n
      have HB : Hid (Below B w wr) := hbr
      clear hbr
      by_cases hlt : k < 10
      · have hck : wr.cell? ⟨b, o + k, none⟩ = some (.int .u8 (gx zs k)) := by rw [HW.out]; simpa using hcell k (by omega)
        have hi1 : (k : Int) < (zs.length : Int) := by omega
        have hi2 : (k : Int) < 10 := by omega
        clear hcell
        have HG : Hid (gx openL k = (openS[k]'(show k < 10 from hlt)).toNat) := by rw [Hid, ← openS_word]; exact gx_wordI openS k hlt
        go_wp2
        go_quiet (fail)
        go_wp2
        · have hp : (gx zs k != (openS[k]'(show k < 10 from hlt)).toNat) = true := by assumption
          go_ret
          refine ⟨retB ?_, below_drewN HB.out _⟩
          have hf : (zs.take 10 == openL) = false := by
            rw [Bool.eq_false_iff]
            intro h
            have := (take_open h10').1 h k hlt
            rw [HG.out] at this
            simp [this] at hp
          simp [pieceL, hf]
        · have hp : (gx zs k != (openS[k]'(show k < 10 from hlt)).toNat) = false := by assumption
          go_roundw
          case rel =>
            refine ⟨k + 1, _, by omega, by go_num, by rw [HW.out]; exact World.drewN_drewN _ _ _, fun t ht => ?_⟩
            rcases Nat.lt_or_ge t k with h | h
            · exact HA.out t h
            · obtain rfl : t = k := by omega
              rw [HG.out]; simpa using hp
          case measure => simp [intOf]; omega
      · have hop : (zs.take 10 == openL) = true := (take_open h10').2 fun t ht => HA.out t (by omega)
        have hcr : ∀ i, i < zs.length → wr.cell? ⟨b, o + i, none⟩ = some (.int .u8 (gx zs i)) := fun i hi => by rw [HW.out]; simpa using hcell i hi
        have ht := Sl.tail (w := wr) hb hc hcr 10 h10'
        obtain ⟨R, hR⟩ : ∃ R, zs.drop 10 = R := ⟨_, rfl⟩
        have hsl0 := fun W => slice_from b o zs.length c 10 h10' hc W
        rw [hR] at ht
        have hRl : R.length ≤ zs.length := by rw [← hR]; simp
        have HR : Hid (zs.drop 10 = R) := hR
        obtain ⟨b', o', c', hb', hc', he', hcell'⟩ := ht
        rw [he'] at hsl0
        have hsl : ∀ W, (Instr.slice 22 (.slice (some ⟨b, o, none⟩) zs.length c) (some (.int .i64 10)) none none).run Try.prog W = .ok (.slice (some ⟨b', o', none⟩) R.length c') W := hsl0
        have HP : Hid (pieceL zs = if runL colonB R = R.length then kindWordL R else kindWordL (R.take (runL colonB R)) && aliasL (R.drop (runL colonB R + 1))) := by
          rw [Hid, pieceL, hop, hR]; rfl
        clear hR hsl0 he' hcell hcr hop HA HW
        go_wp2
        go_loop [6, 7] (fun col i => ∃ j : Nat, j ≤ R.length ∧ col = .int .i64 (-1) ∧ i = .int .i64 j ∧ ∀ t, t < j → colonB (gx R t) = true) (fun _ i => R.length - (intOf i).toNat)
        case atStart => exact ⟨0, Nat.zero_le _, rfl, rfl, fun t h => absurd h (Nat.not_lt_zero _)⟩
        case round =>
          obtain ⟨j, hj, rfl, rfl, hall⟩ := hrel
          have HA : Hid (∀ t, t < j → colonB (gx R t) = true) := hall
          clear hall hsl
          by_cases hjl : j < R.length
          · have hcj := hcell' j hjl
            cases h58 : (gx R j == 58)
            · have hp : colonB (gx R j) = true := by simp [colonB, bne, h58]
              clear hcell'
              go_wp2
              go_round
              case rel => exact ⟨j + 1, by omega, rfl, by go_num, fun t ht => by rcases Nat.lt_or_ge t j with h | h; exact HA.out t h; exact (show t = j by omega) ▸ hp⟩
              case measure => simp [intOf]; omega
            · have hp : colonB (gx R j) = false := by simp [colonB, bne, h58]
              have hrun : runL colonB R = j := runL_eq colonB R j hj HA.out (fun _ => hp)
              have HP2 : Hid (pieceL zs = (kindWordL (R.take j) && aliasL (R.drop (j + 1)))) := by
                rw [Hid, HP.out, hrun, if_neg (by omega)]
              have hk := mKind_any (Sl.head hb' hc' hcell' j hj) (by simp; omega)
              have hal := mAlias_any (Sl.tail hb' hc' hcell' (j + 1) (by omega)) (by simp; omega)
              have hs1 := fun W => slice_to b' o' R.length c' j (by omega) W
              have hs2 : ∀ W, (Instr.slice 22 (.slice (some ⟨b', o', none⟩) R.length c') (some (.int .i64 ((j : Int) + 1))) none none).run Try.prog W = .ok (tailV b' o' R.length c' (j + 1)) W := fun W => slice_from b' o' R.length c' (j + 1) (by omega) hc' W
              clear hcell' hrun HP HA
              cases hkw : kindWordL (R.take j)
              · rw [hkw] at hk
                go_wp2_with (fail)
                refine calls_same hk ?_
                go_wp2
                go_ret
                exact ⟨retB (by rw [HP2.out, hkw]; rfl), HB.out⟩
              · rw [hkw] at hk
                go_wp2_with (fail)
                refine calls_same hk ?_
                go_wp2_with (fail)
                refine calls_same hal ?_
                go_wp2
                go_ret
                exact ⟨retB (by rw [HP2.out, hkw]; rfl), HB.out⟩
          · have hrun : runL colonB R = R.length := runL_eq colonB R R.length (Nat.le_refl _) (fun t ht => HA.out t (by omega)) (fun h => absurd h (Nat.lt_irrefl _))
            have HP2 : Hid (pieceL zs = kindWordL R) := by rw [Hid, HP.out, if_pos hrun]
            have hk := mKind_any (B := B) (w := wr) (v := .slice (some ⟨b', o', none⟩) R.length c') (zs := R) ⟨b', o', c', hb', hc', rfl, hcell'⟩ (by omega)
            clear hcell' hrun HP HA
            go_wp2_with (fail)
            refine calls_same hk ?_
            go_wp2
            go_ret
            exact ⟨retB (by rw [HP2.out]), HB.out⟩
end Go.Proofs.Qxb6613719a
