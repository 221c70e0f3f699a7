/- 'isMarkers', 'keeps'. -/
import Derived.Test.Qxb6613719aMarker
namespace Go.Proofs.Qxb6613719a
open Go.RowKit
set_option linter.unusedVariables false

theorem markerL_le (zs : List Int) : markerL zs ≤ zs.length := by
  unfold markerL
  split
  · rename_i h
    have h10 : 10 ≤ zs.length := by
      have := congrArg List.length (beq_iff_eq.1 h)
      simp [openL] at this
      omega
    split
    · omega
    · split
      · omega
      · rename_i hh
        simp only [Bool.or_eq_true, decide_eq_true_eq, not_or] at hh
        have hk : kindEnd zs ≤ zs.length := by
          have := runL_le kindB (zs.drop 10)
          simp at this
          unfold kindEnd
          omega
        have : aliasEnd zs (kindEnd zs) ≤ zs.length := by
          unfold aliasEnd
          split
          · rename_i h3
            simp only [Bool.and_eq_true, decide_eq_true_eq] at h3
            have a1 : 12 ≤ runL aliasB (zs.drop (kindEnd zs + 1)) := by simpa [spansL] using h3.2
            have a2 := runL_le aliasB (zs.drop (kindEnd zs + 1))
            simp at a2
            omega
          · exact hk
        omega
  · omega

theorem marksF_more : ∀ (f g : Nat) (zs : List Int), zs.length ≤ f → zs.length ≤ g → marksF f zs = marksF g zs
  | 0, g, zs, hf, hg => by
    obtain rfl : zs = [] := List.eq_nil_of_length_eq_zero (by omega)
    cases g <;> simp [marksF]
  | f + 1, 0, zs, hf, hg => by
    obtain rfl : zs = [] := List.eq_nil_of_length_eq_zero (by omega)
    simp [marksF]
  | f + 1, g + 1, zs, hf, hg => by
    unfold marksF
    split
    · rfl
    · split
      · rfl
      · rename_i h1 h2
        have h3 : markerL zs ≠ 0 := by simpa using h2
        exact marksF_more f g _ (by simp; omega) (by simp; omega)

theorem marksL_nil : marksL [] = true := rfl
theorem marksL_no {zs : List Int} (h : zs ≠ []) (h0 : markerL zs = 0) : marksL zs = false := by
  unfold marksL
  cases zs with
  | nil => exact absurd rfl h
  | cons a l => simp [marksF, h0]
theorem marksL_step {zs : List Int} (h : zs ≠ []) (h0 : markerL zs ≠ 0) : marksL zs = marksL (zs.drop (markerL zs)) := by
  cases zs with
  | nil => exact absurd rfl h
  | cons a l =>
    have e : marksL (a :: l) = marksF l.length ((a :: l).drop (markerL (a :: l))) := by
      unfold marksL
      simp only [List.length_cons, marksF]
      simp [h0]
    rw [e]
    exact marksF_more _ _ _ (by simp; omega) (Nat.le_refl _)

def lenOf : Value → Nat
  | .slice _ n _ => n
  | _ => 0

theorem Sl.lt {B : Nat} {w : World} {v : Value} {zs : List Int} (h : Sl B w v zs) : lenOf v = zs.length := by
  obtain ⟨b, o, c, h1, h2, rfl, h4⟩ := h
  rfl

set_option maxHeartbeats 1000000 in
theorem isMarkers_any {B : Nat} {v : Value} {zs : List Int} {w : World} (hB : B ≤ w.heap.size) (hv : Sl B w v zs) (hl : zs.length < 4194304) (hby : ByteL zs) :
    Calls Try.prog 47 #[v] w fun e w' => e = .returned (.bool (marksL zs)) ∧ Below B w w' := by
  go_enter Try.func47, Try.ntmps47
  go_wp2
  go_loopw [0] (fun v wr => ∃ ys, Sl B wr v ys ∧ Below B w wr ∧ marksL zs = marksL ys ∧ ys.length ≤ zs.length ∧ ByteL ys) (fun v _ => lenOf v)
  case atStart => exact ⟨zs, hv, Below.refl _ _, rfl, Nat.le_refl _, hby⟩
  case round =>
    obtain ⟨ys, hy, hbel, hm, hle, hyb⟩ := hrel
    have HM : Hid (marksL zs = marksL ys) := hm
    have HB : Hid (Below B w wr) := hbel
    have hBr : B ≤ wr.heap.size := Nat.le_trans hB hbel.size
    clear hm hbel hv
    have hml := markerLen_any hBr hy (by omega) hyb
    have hmle := markerL_le ys
    have hy0 := hy
    obtain ⟨b, o, c, hb, hc, rfl, hcell⟩ := hy
    clear hcell
    by_cases hnil : ys.length = 0
    · obtain rfl : ys = [] := List.eq_nil_of_length_eq_zero hnil
      clear hml
      go_wp2
      go_ret
      exact ⟨retB (by rw [HM.out, marksL_nil]), HB.out⟩
    · have hpos : (0 : Int) < (ys.length : Int) := by omega
      have hne : ys ≠ [] := fun h => hnil (by rw [h]; rfl)
      by_cases h0 : markerL ys = 0
      · have e0 : (((markerL ys : Nat) : Int) == 0) = true := by simp [h0]
        have H0 : Hid (markerL ys = 0) := h0
        clear h0
        go_wp2_with (fail)
        refine hml.mono ?_
        rintro e w1 ⟨rfl, hb1⟩
        go_wp2
        go_ret
        exact ⟨retB (by rw [HM.out, marksL_no hne H0.out]), HB.out.trans hb1⟩
      · have e0 : (((markerL ys : Nat) : Int) == 0) = false := by simp; omega
        have hsl : ∀ W, (Instr.slice 22 (.slice (some ⟨b, o, none⟩) ys.length c) (some (.int .i64 ((markerL ys : Nat) : Int))) none none).run Try.prog W = .ok (tailV b o ys.length c (markerL ys)) W := fun W => slice_from b o ys.length c (markerL ys) hmle hc W
        go_wp2_with (fail)
        refine hml.mono ?_
        rintro e w1 ⟨rfl, hb1⟩
        have HB1 : Hid (Below B wr w1) := hb1
        clear hb1
        go_wp2
        have hy1 := hy0.below HB1.out
        obtain ⟨b', o', c', hb', hc', he', hcell'⟩ := hy1
        cases he'
        have ht := Sl.tail hb hc hcell' (markerL ys) hmle
        go_roundw
        case rel => exact ⟨_, ht, HB.out.trans HB1.out, by rw [HM.out, marksL_step hne h0], by simp; omega, hyb.drop _⟩
        case measure =>
          have := ht.lt
          rw [this]
          simp [lenOf]
          omega
end Go.Proofs.Qxb6613719a
