/- 'keeps'. -/
import Derived.Test.Qxb6613719aKeeps
namespace Go.Proofs.Qxb6613719a
open Go.RowKit
set_option linter.unusedVariables false

theorem fold_bel {B : Nat} {v : Value} {zs : List Int} {w : World} (s : ByteArray) (ws : List Int) (hws : wordI s = ws) (hv : Sl B w v zs) (hl : zs.length < 4194304) (hs : s.size < 4194304) (hby : ByteL zs) (r : Bool) (hr : foldL zs ws = r) :
    Calls Try.prog 33 #[v, .string s] w fun e w' => e = .returned (.bool r) ∧ Below B w w' :=
  (equalFold_any s hv hl hs hby).mono fun e w' ⟨he, n, hw⟩ => by
    subst hws; subst hr; subst hw
    exact ⟨he, below_drewN (Below.refl _ _) n⟩

theorem keepsL_star {zs : List Int} (h : runL starB zs = zs.length) : keepsL zs = true := by simp [keepsL, h]
theorem keepsL_marks {zs : List Int} (h : marksL zs = true) : keepsL zs = true := by simp [keepsL, h]
theorem keepsL_else {zs : List Int} (h1 : runL starB zs ≠ zs.length) (h2 : marksL zs = false) : keepsL zs = wordsL zs := by simp [keepsL, h1, h2]

theorem idx0 (w : World) : (Instr.index 37 (.agg #[.string { data := #[110, 117, 108, 108] }, .string { data := #[110, 111, 110, 101] }, .string { data := #[110, 105, 108] }, .string { data := #[116, 114, 117, 101] }, .string { data := #[102, 97, 108, 115, 101] }, .string { data := #[117, 110, 100, 101, 102, 105, 110, 101, 100] }]) (.int .i64 0)).run Try.prog w = .ok (.string { data := #[110, 117, 108, 108] }) w := by kernel_rfl
theorem idx1 (w : World) : (Instr.index 37 (.agg #[.string { data := #[110, 117, 108, 108] }, .string { data := #[110, 111, 110, 101] }, .string { data := #[110, 105, 108] }, .string { data := #[116, 114, 117, 101] }, .string { data := #[102, 97, 108, 115, 101] }, .string { data := #[117, 110, 100, 101, 102, 105, 110, 101, 100] }]) (.int .i64 1)).run Try.prog w = .ok (.string { data := #[110, 111, 110, 101] }) w := by kernel_rfl
theorem idx2 (w : World) : (Instr.index 37 (.agg #[.string { data := #[110, 117, 108, 108] }, .string { data := #[110, 111, 110, 101] }, .string { data := #[110, 105, 108] }, .string { data := #[116, 114, 117, 101] }, .string { data := #[102, 97, 108, 115, 101] }, .string { data := #[117, 110, 100, 101, 102, 105, 110, 101, 100] }]) (.int .i64 2)).run Try.prog w = .ok (.string { data := #[110, 105, 108] }) w := by kernel_rfl
theorem idx3 (w : World) : (Instr.index 37 (.agg #[.string { data := #[110, 117, 108, 108] }, .string { data := #[110, 111, 110, 101] }, .string { data := #[110, 105, 108] }, .string { data := #[116, 114, 117, 101] }, .string { data := #[102, 97, 108, 115, 101] }, .string { data := #[117, 110, 100, 101, 102, 105, 110, 101, 100] }]) (.int .i64 3)).run Try.prog w = .ok (.string { data := #[116, 114, 117, 101] }) w := by kernel_rfl
theorem idx4 (w : World) : (Instr.index 37 (.agg #[.string { data := #[110, 117, 108, 108] }, .string { data := #[110, 111, 110, 101] }, .string { data := #[110, 105, 108] }, .string { data := #[116, 114, 117, 101] }, .string { data := #[102, 97, 108, 115, 101] }, .string { data := #[117, 110, 100, 101, 102, 105, 110, 101, 100] }]) (.int .i64 4)).run Try.prog w = .ok (.string { data := #[102, 97, 108, 115, 101] }) w := by kernel_rfl
theorem idx5 (w : World) : (Instr.index 37 (.agg #[.string { data := #[110, 117, 108, 108] }, .string { data := #[110, 111, 110, 101] }, .string { data := #[110, 105, 108] }, .string { data := #[116, 114, 117, 101] }, .string { data := #[102, 97, 108, 115, 101] }, .string { data := #[117, 110, 100, 101, 102, 105, 110, 101, 100] }]) (.int .i64 5)).run Try.prog w = .ok (.string { data := #[117, 110, 100, 101, 102, 105, 110, 101, 100] }) w := by kernel_rfl

set_option maxHeartbeats 2000000 in
theorem keeps_any {B : Nat} {v : Value} {zs : List Int} {w : World} (hB : B ≤ w.heap.size) (hv : Sl B w v zs) (hl : zs.length < 4194304) (hby : ByteL zs) :
    Calls Try.prog 39 #[v] w fun e w' => e = .returned (.bool (keepsL zs)) ∧ Below B w w' := by
  have hrun := run_starB hv hl
  have hmk := isMarkers_any hB hv hl hby
  have HV : Hid (Sl B w v zs) := hv
  obtain ⟨b, o, c, hb, hc, rfl, hcell⟩ := hv
  clear hcell
  have i0 := idx0; have i1 := idx1; have i2 := idx2; have i3 := idx3; have i4 := idx4; have i5 := idx5
  by_cases hst : runL starB zs = zs.length
  · have e0 : (((runL starB zs : Nat) : Int) == (zs.length : Int)) = true := by simp [hst]
    have HS : Hid (runL starB zs = zs.length) := hst
    clear hst
    go_enter Try.func39, Try.ntmps39
    go_wp2_with (fail)
    refine calls_same hrun ?_
    go_wp2
    go_ret
    exact ⟨retB (keepsL_star HS.out).symm, Below.refl _ _⟩
  · have e0 : (((runL starB zs : Nat) : Int) == (zs.length : Int)) = false := by simp; omega
    cases hmb : marksL zs
    · rw [hmb] at hmk
      go_enter Try.func39, Try.ntmps39
      go_wp2_with (fail)
      refine calls_same hrun ?_
      go_wp2_with (fail)
      refine hmk.mono ?_
      rintro e W ⟨rfl, hbW⟩
      have HB : Hid (Below B w W) := hbW
      have HM : Hid (marksL zs = false) := hmb
      clear hbW hmk hrun hmb
      go_wp2_with (fail)
      refine wp_loop_rounds 7 ?_
      cases hf0 : foldL zs wNull
      rotate_left
      · rw [rounds_succ]
        go_wp2_with (fail)
        refine (fold_bel _ wNull (by rfl) (HV.out.below HB.out) hl (by decide) hby true hf0).mono ?_
        rintro e W1 ⟨rfl, hbn⟩
        go_wp2
        go_ret
        exact ⟨retB (by rw [keepsL_else hst HM.out]; simp [wordsL, hf0]), HB.out.trans hbn⟩
      rw [rounds_succ]
      go_wp2_with (fail)
      refine (fold_bel _ wNull (by rfl) (HV.out.below HB.out) hl (by decide) hby false hf0).mono ?_
      rintro e W1 ⟨rfl, hbn⟩
      have HB1 : Hid (Below B w W1) := HB.out.trans hbn
      clear hbn HB
      go_wp2_with (fail)
      cases hf1 : foldL zs wNone
      rotate_left
      · rw [rounds_succ]
        go_wp2_with (fail)
        refine (fold_bel _ wNone (by rfl) (HV.out.below HB1.out) hl (by decide) hby true hf1).mono ?_
        rintro e W2 ⟨rfl, hbn⟩
        go_wp2
        go_ret
        exact ⟨retB (by rw [keepsL_else hst HM.out]; simp [wordsL, hf0, hf1]), HB1.out.trans hbn⟩
      rw [rounds_succ]
      go_wp2_with (fail)
      refine (fold_bel _ wNone (by rfl) (HV.out.below HB1.out) hl (by decide) hby false hf1).mono ?_
      rintro e W2 ⟨rfl, hbn⟩
      have HB2 : Hid (Below B w W2) := HB1.out.trans hbn
      clear hbn HB1
      go_wp2_with (fail)
      cases hf2 : foldL zs wNil
      rotate_left
      · rw [rounds_succ]
        go_wp2_with (fail)
        refine (fold_bel _ wNil (by rfl) (HV.out.below HB2.out) hl (by decide) hby true hf2).mono ?_
        rintro e W3 ⟨rfl, hbn⟩
        go_wp2
        go_ret
        exact ⟨retB (by rw [keepsL_else hst HM.out]; simp [wordsL, hf0, hf1, hf2]), HB2.out.trans hbn⟩
      rw [rounds_succ]
      go_wp2_with (fail)
      refine (fold_bel _ wNil (by rfl) (HV.out.below HB2.out) hl (by decide) hby false hf2).mono ?_
      rintro e W3 ⟨rfl, hbn⟩
      have HB3 : Hid (Below B w W3) := HB2.out.trans hbn
      clear hbn HB2
      go_wp2_with (fail)
      cases hf3 : foldL zs wTrue
      rotate_left
      · rw [rounds_succ]
        go_wp2_with (fail)
        refine (fold_bel _ wTrue (by rfl) (HV.out.below HB3.out) hl (by decide) hby true hf3).mono ?_
        rintro e W4 ⟨rfl, hbn⟩
        go_wp2
        go_ret
        exact ⟨retB (by rw [keepsL_else hst HM.out]; simp [wordsL, hf0, hf1, hf2, hf3]), HB3.out.trans hbn⟩
      rw [rounds_succ]
      go_wp2_with (fail)
      refine (fold_bel _ wTrue (by rfl) (HV.out.below HB3.out) hl (by decide) hby false hf3).mono ?_
      rintro e W4 ⟨rfl, hbn⟩
      have HB4 : Hid (Below B w W4) := HB3.out.trans hbn
      clear hbn HB3
      go_wp2_with (fail)
      cases hf4 : foldL zs wFalse
      rotate_left
      · rw [rounds_succ]
        go_wp2_with (fail)
        refine (fold_bel _ wFalse (by rfl) (HV.out.below HB4.out) hl (by decide) hby true hf4).mono ?_
        rintro e W5 ⟨rfl, hbn⟩
        go_wp2
        go_ret
        exact ⟨retB (by rw [keepsL_else hst HM.out]; simp [wordsL, hf0, hf1, hf2, hf3, hf4]), HB4.out.trans hbn⟩
      rw [rounds_succ]
      go_wp2_with (fail)
      refine (fold_bel _ wFalse (by rfl) (HV.out.below HB4.out) hl (by decide) hby false hf4).mono ?_
      rintro e W5 ⟨rfl, hbn⟩
      have HB5 : Hid (Below B w W5) := HB4.out.trans hbn
      clear hbn HB4
      go_wp2_with (fail)
      cases hf5 : foldL zs wUndef
      rotate_left
      · rw [rounds_succ]
        go_wp2_with (fail)
        refine (fold_bel _ wUndef (by rfl) (HV.out.below HB5.out) hl (by decide) hby true hf5).mono ?_
        rintro e W6 ⟨rfl, hbn⟩
        go_wp2
        go_ret
        exact ⟨retB (by rw [keepsL_else hst HM.out]; simp [wordsL, hf0, hf1, hf2, hf3, hf4, hf5]), HB5.out.trans hbn⟩
      rw [rounds_succ]
      go_wp2_with (fail)
      refine (fold_bel _ wUndef (by rfl) (HV.out.below HB5.out) hl (by decide) hby false hf5).mono ?_
      rintro e W6 ⟨rfl, hbn⟩
      have HB6 : Hid (Below B w W6) := HB5.out.trans hbn
      clear hbn HB5
      go_wp2_with (fail)
      rw [rounds_succ]
      go_wp2
      go_ret
      exact ⟨retB (by rw [keepsL_else hst HM.out]; simp [wordsL, hf0, hf1, hf2, hf3, hf4, hf5]), HB6.out⟩
    · rw [hmb] at hmk
      go_enter Try.func39, Try.ntmps39
      go_wp2_with (fail)
      refine calls_same hrun ?_
      go_wp2_with (fail)
      refine hmk.mono ?_
      rintro e W ⟨rfl, hbW⟩
      go_wp2
      go_ret
      exact ⟨retB (keepsL_marks hmb).symm, hbW⟩
end Go.Proofs.Qxb6613719a
