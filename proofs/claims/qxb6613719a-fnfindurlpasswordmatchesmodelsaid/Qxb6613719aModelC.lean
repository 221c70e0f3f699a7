/- The model's zzURLMarkers and zzURLKept. -/
import Derived.Test.Qxb6613719aModelB
namespace Go.Proofs.Qxb6613719a
open Go.RowKit
set_option linter.unusedVariables false
set_option linter.unusedSimpArgs false

theorem restL_go {zs : List Int} {n f k : Nat} (h : (gx zs k == 93) = false) : restL zs (n + 1) f k = restL zs n f (k + 1) := by simp [restL, h]
theorem restL_no {zs : List Int} {n f k : Nat} (h : (gx zs k == 93) = true) (hp : pieceL (midL zs f k) = false) : restL zs (n + 1) f k = false := by simp [restL, h, hp]
theorem restL_yes {zs : List Int} {n f k : Nat} (h : (gx zs k == 93) = true) (hp : pieceL (midL zs f k) = true) : restL zs (n + 1) f k = restL zs n (k + 1) (k + 1) := by simp [restL, h, hp]

set_option maxHeartbeats 1000000 in
theorem mMarkers_any {B : Nat} {v : Value} {zs : List Int} {w : World} (hv : Sl B w v zs) (hl : zs.length < 4194304) (hby : ByteL zs) :
    Calls Try.prog 41 #[v] w fun e w' => e = .returned (.bool (piecesL zs)) ∧ Below B w w' := by
  obtain ⟨b, o, c, hb, hc, rfl, hcell⟩ := hv
  by_cases h0 : zs.length = 0
  · have e0 : ((zs.length : Int) == 0) = true := by rw [h0]; rfl
    have H0 : Hid _ := h0
    clear h0 hcell
    go_enter Try.func41, Try.ntmps41
    go_wp2
    go_ret
    exact ⟨retB (by simp [piecesL, H0.out]), Below.refl _ _⟩
  · have e0 : ((zs.length : Int) == 0) = false := by rw [beq_eq_false_iff_ne]; omega
    have hcl := hcell (zs.length - 1) (by omega)
    cases h93 : (gx zs (zs.length - 1) == 93)
    · have h93' : (gx zs (zs.length - 1) != 93) = true := by simp [bne, h93]
      clear hcell
      go_enter Try.func41, Try.ntmps41
      go_wp2
      go_ret
      exact ⟨retB (by simp [piecesL, h93]), Below.refl _ _⟩
    · have h93' : (gx zs (zs.length - 1) != 93) = false := by simp [bne, h93]
      have HP : Hid (piecesL zs = restL zs zs.length 0 0) := by simp [Hid, piecesL, h93, h0]
      go_enter Try.func41, Try.ntmps41
      go_wp2
      go_loopw [3, 4] (fun fr i wr => ∃ f k : Nat, f ≤ k ∧ k ≤ zs.length ∧ fr = .int .i64 f ∧ i = .int .i64 k ∧ Below B w wr ∧ restL zs zs.length 0 0 = restL zs (zs.length - k) f k) (fun _ i _ => zs.length - (intOf i).toNat)
      case atStart => exact ⟨0, 0, Nat.le_refl _, Nat.zero_le _, rfl, rfl, Below.refl _ _, by rw [Nat.sub_zero]⟩
      case round =>
        obtain ⟨f, k, hfk, hk, rfl, rfl, hbel, hre⟩ := hrel
        have HB : Hid (Below B w wr) := hbel
        have HR : Hid _ := hre
        have hcr : ∀ i, i < zs.length → wr.cell? ⟨b, o + i, none⟩ = some (.int .u8 (gx zs i)) := fun i hi => (hbel.cell (p := ⟨b, o + i, none⟩) hb).trans (hcell i hi)
        clear hbel hre hcell hcl
        by_cases hlt : k < zs.length
        · have hck := hcr k hlt
          have hn : zs.length - k = (zs.length - (k + 1)) + 1 := by omega
          have HR2 : Hid (restL zs zs.length 0 0 = restL zs ((zs.length - (k + 1)) + 1) f k) := by rw [Hid, HR.out, hn]
          clear HR hn
          cases hb93 : (gx zs k == 93)
          · clear hcr
            go_wp2
            go_roundw
            case rel => exact ⟨f, k + 1, by omega, by omega, rfl, by go_num, HB.out, by rw [HR2.out, restL_go hb93]⟩
            case measure => simp [intOf]; omega
          · have hm := mMarker_any (Sl.mid hb hc hcr f k hfk hk) (by simp [midL]; omega) ((hby.drop _).take _)
            have hsm : ∀ W, (Instr.slice 22 (.slice (some ⟨b, o, none⟩) zs.length c) (some (.int .i64 (f : Int))) (some (.int .i64 (k : Int))) none).run Try.prog W = .ok (midV b o c f k) W := fun W => slice_mid b o zs.length c f k hfk (by omega) W
            clear hcr
            cases hp : pieceL (midL zs f k)
            · rw [hp] at hm
              go_wp2_with (fail)
              refine hm.mono ?_
              rintro e w1 ⟨rfl, hb1⟩
              go_wp2
              go_ret
              exact ⟨retB (by rw [HP.out, HR2.out, restL_no hb93 hp]), HB.out.trans hb1⟩
            · rw [hp] at hm
              go_wp2_with (fail)
              refine hm.mono ?_
              rintro e w1 ⟨rfl, hb1⟩
              have HB1 : Hid (Below B w w1) := HB.out.trans hb1
              clear hb1 hm hsm
              go_wp2
              go_roundw
              case rel => exact ⟨k + 1, k + 1, by omega, by omega, by go_num, by go_num, HB1.out, by rw [HR2.out, restL_yes hb93 hp]⟩
              case measure => simp [intOf]; omega
        · clear hcr
          go_wp2
          go_ret
          refine ⟨retB ?_, HB.out⟩
          rw [HP.out, HR.out, show zs.length - k = 0 by omega]
          rfl

theorem mfold_same {B : Nat} {v : Value} {zs : List Int} {w : World} (s : ByteArray) (ws : List Int) (hws : wordI s = ws) (hv : Sl B w v zs) (hl : zs.length < 4194304) (hs : s.size < 4194304) (hby : ByteL zs) (r : Bool) (hr : foldL zs ws = r) :
    Calls Try.prog 40 #[v, .string s] w fun e w' => e = .returned (.bool r) ∧ w' = w := by
  have h := mFold_any s hv hl hs hby
  rwa [hws, hr] at h

theorem keptL_star {zs : List Int} (h : runL starB zs = zs.length) : keptL zs = true := by simp [keptL, h]
theorem keptL_else {zs : List Int} (h : runL starB zs ≠ zs.length) : keptL zs = (wordsL zs || piecesL zs) := by simp [keptL, h]

set_option maxHeartbeats 2000000 in
theorem mKept_any {B : Nat} {v : Value} {zs : List Int} {w : World} (hv : Sl B w v zs) (hl : zs.length < 4194304) (hby : ByteL zs) :
    Calls Try.prog 26 #[v] w fun e w' => e = .returned (.bool (keptL zs)) ∧ Below B w w' := by
  have HV : Hid (Sl B w v zs) := hv
  have hmk := mMarkers_any hv hl hby
  obtain ⟨b, o, c, hb, hc, rfl, hcell⟩ := hv
  go_enter Try.func26, Try.ntmps26
  go_wp2
  go_loop [3, 4] (fun st i => ∃ (k : Nat) (sb : Bool), k ≤ zs.length ∧ st = .bool sb ∧ i = .int .i64 k ∧ (sb = true ↔ ∀ t, t < k → starB (gx zs t) = true)) (fun _ i => zs.length - (intOf i).toNat)
  case atStart => exact ⟨0, true, Nat.zero_le _, rfl, rfl, ⟨fun _ t h => absurd h (Nat.not_lt_zero _), fun _ => rfl⟩⟩
  case round =>
    obtain ⟨k, sb, hk, rfl, rfl, hsb⟩ := hrel
    have HS : Hid _ := hsb
    clear hsb
    by_cases hlt : k < zs.length
    · have hck := hcell k hlt
      clear hcell hmk
      cases h42 : (gx zs k == 42)
      · have h42' : (gx zs k != 42) = true := by simp [bne, h42]
        go_wp2
        go_round
        case rel => exact ⟨k + 1, false, by omega, rfl, by go_num, ⟨fun h => (by cases h), fun h => (by have := h k (by omega); rw [starB, h42] at this; cases this)⟩⟩
        case measure => simp [intOf]; omega
      · have h42' : (gx zs k != 42) = false := by simp [bne, h42]
        go_wp2
        go_round
        case rel => exact ⟨k + 1, sb, by omega, rfl, by go_num, ⟨fun h t ht => (by rcases Nat.lt_or_ge t k with h' | h'; exact HS.out.1 h t h'; exact (show t = k by omega) ▸ h42), fun h => HS.out.2 fun t ht => h t (by omega)⟩⟩
        case measure => simp [intOf]; omega
    · clear hcell
      have hst : Hid (sb = true ↔ runL starB zs = zs.length) := by
        constructor
        · intro h
          exact runL_eq starB zs zs.length (Nat.le_refl _) (fun t ht => HS.out.1 h t (by omega)) (fun h => absurd h (Nat.lt_irrefl _))
        · intro h
          exact HS.out.2 fun t ht => runL_before starB zs t (by omega)
      clear HS
      cases sb
      · have hne : Hid (runL starB zs ≠ zs.length) := fun h => (by have := hst.out.2 h; cases this)
        clear hst
        cases hf0 : foldL zs wNull
        rotate_left
        · go_wp2_with (fail)
          refine calls_same (mfold_same _ wNull (by rfl) HV.out hl (by decide) hby true hf0) ?_
          go_wp2
          go_ret
          exact ⟨retB (by rw [keptL_else hne.out]; simp [wordsL, hf0]), Below.refl _ _⟩
        cases hf1 : foldL zs wNone
        rotate_left
        · go_wp2_with (fail)
          refine calls_same (mfold_same _ wNull (by rfl) HV.out hl (by decide) hby false hf0) ?_
          go_wp2_with (fail)
          refine calls_same (mfold_same _ wNone (by rfl) HV.out hl (by decide) hby true hf1) ?_
          go_wp2
          go_ret
          exact ⟨retB (by rw [keptL_else hne.out]; simp [wordsL, hf0, hf1]), Below.refl _ _⟩
        cases hf2 : foldL zs wNil
        rotate_left
        · go_wp2_with (fail)
          refine calls_same (mfold_same _ wNull (by rfl) HV.out hl (by decide) hby false hf0) ?_
          go_wp2_with (fail)
          refine calls_same (mfold_same _ wNone (by rfl) HV.out hl (by decide) hby false hf1) ?_
          go_wp2_with (fail)
          refine calls_same (mfold_same _ wNil (by rfl) HV.out hl (by decide) hby true hf2) ?_
          go_wp2
          go_ret
          exact ⟨retB (by rw [keptL_else hne.out]; simp [wordsL, hf0, hf1, hf2]), Below.refl _ _⟩
        cases hf3 : foldL zs wTrue
        rotate_left
        · go_wp2_with (fail)
          refine calls_same (mfold_same _ wNull (by rfl) HV.out hl (by decide) hby false hf0) ?_
          go_wp2_with (fail)
          refine calls_same (mfold_same _ wNone (by rfl) HV.out hl (by decide) hby false hf1) ?_
          go_wp2_with (fail)
          refine calls_same (mfold_same _ wNil (by rfl) HV.out hl (by decide) hby false hf2) ?_
          go_wp2_with (fail)
          refine calls_same (mfold_same _ wTrue (by rfl) HV.out hl (by decide) hby true hf3) ?_
          go_wp2
          go_ret
          exact ⟨retB (by rw [keptL_else hne.out]; simp [wordsL, hf0, hf1, hf2, hf3]), Below.refl _ _⟩
        cases hf4 : foldL zs wFalse
        rotate_left
        · go_wp2_with (fail)
          refine calls_same (mfold_same _ wNull (by rfl) HV.out hl (by decide) hby false hf0) ?_
          go_wp2_with (fail)
          refine calls_same (mfold_same _ wNone (by rfl) HV.out hl (by decide) hby false hf1) ?_
          go_wp2_with (fail)
          refine calls_same (mfold_same _ wNil (by rfl) HV.out hl (by decide) hby false hf2) ?_
          go_wp2_with (fail)
          refine calls_same (mfold_same _ wTrue (by rfl) HV.out hl (by decide) hby false hf3) ?_
          go_wp2_with (fail)
          refine calls_same (mfold_same _ wFalse (by rfl) HV.out hl (by decide) hby true hf4) ?_
          go_wp2
          go_ret
          exact ⟨retB (by rw [keptL_else hne.out]; simp [wordsL, hf0, hf1, hf2, hf3, hf4]), Below.refl _ _⟩
        cases hf5 : foldL zs wUndef
        rotate_left
        · go_wp2_with (fail)
          refine calls_same (mfold_same _ wNull (by rfl) HV.out hl (by decide) hby false hf0) ?_
          go_wp2_with (fail)
          refine calls_same (mfold_same _ wNone (by rfl) HV.out hl (by decide) hby false hf1) ?_
          go_wp2_with (fail)
          refine calls_same (mfold_same _ wNil (by rfl) HV.out hl (by decide) hby false hf2) ?_
          go_wp2_with (fail)
          refine calls_same (mfold_same _ wTrue (by rfl) HV.out hl (by decide) hby false hf3) ?_
          go_wp2_with (fail)
          refine calls_same (mfold_same _ wFalse (by rfl) HV.out hl (by decide) hby false hf4) ?_
          go_wp2_with (fail)
          refine calls_same (mfold_same _ wUndef (by rfl) HV.out hl (by decide) hby true hf5) ?_
          go_wp2
          go_ret
          exact ⟨retB (by rw [keptL_else hne.out]; simp [wordsL, hf0, hf1, hf2, hf3, hf4, hf5]), Below.refl _ _⟩
        go_wp2_with (fail)
        refine calls_same (mfold_same _ wNull (by rfl) HV.out hl (by decide) hby false hf0) ?_
        go_wp2_with (fail)
        refine calls_same (mfold_same _ wNone (by rfl) HV.out hl (by decide) hby false hf1) ?_
        go_wp2_with (fail)
        refine calls_same (mfold_same _ wNil (by rfl) HV.out hl (by decide) hby false hf2) ?_
        go_wp2_with (fail)
        refine calls_same (mfold_same _ wTrue (by rfl) HV.out hl (by decide) hby false hf3) ?_
        go_wp2_with (fail)
        refine calls_same (mfold_same _ wFalse (by rfl) HV.out hl (by decide) hby false hf4) ?_
        go_wp2_with (fail)
        refine calls_same (mfold_same _ wUndef (by rfl) HV.out hl (by decide) hby false hf5) ?_
        go_wp2_with (fail)
        refine hmk.mono ?_
        rintro e w1 ⟨rfl, hb1⟩
        go_wp2
        go_ret
        exact ⟨retB (by rw [keptL_else hne.out]; simp [wordsL, hf0, hf1, hf2, hf3, hf4, hf5]), hb1⟩
      · clear hmk
        go_wp2
        go_ret
        exact ⟨retB (keptL_star (hst.out.1 (by trivial))).symm, Below.refl _ _⟩
end Go.Proofs.Qxb6613719a
