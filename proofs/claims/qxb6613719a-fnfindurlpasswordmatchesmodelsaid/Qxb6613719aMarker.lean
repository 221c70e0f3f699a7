/- 'markerLen'. -/
import Derived.Test.Qxb6613719aMarks
namespace Go.Proofs.Qxb6613719a
open Go.RowKit
set_option linter.unusedVariables false

def openObj : Obj := .cells #[.int .u8 91, .int .u8 82, .int .u8 69, .int .u8 68, .int .u8 65, .int .u8 67, .int .u8 84, .int .u8 69, .int .u8 68, .int .u8 58] 5 (10, 11)

theorem openL_bytes : ByteL openL := by
  intro k hk
  match k, hk with
  | 0, _ | 1, _ | 2, _ | 3, _ | 4, _ | 5, _ | 6, _ | 7, _ | 8, _ | 9, _ => simp [openL, gx]
  | k + 10, hk => simp [openL] at hk; omega

theorem Sl_open (w : World) : Sl (w.heap.size + 1) (w.alloc openObj) (.slice (some ⟨w.heap.size, 0, none⟩) 10 10) openL := by
  refine ⟨w.heap.size, 0, 10, by omega, by simp [openL], rfl, fun i hi => ?_⟩
  rw [Nat.zero_add]
  unfold openObj
  rw [World.cell?_alloc_mark]
  have : i < 10 := hi
  match i, hi with
  | 0, _ | 1, _ | 2, _ | 3, _ | 4, _ | 5, _ | 6, _ | 7, _ | 8, _ | 9, _ => rfl
  | k + 10, hk => simp [openL] at hk; omega

/-- As 'calls_same', with a new name for the world. -/
theorem calls_to {P : Program} {f : Nat} {args : Array Value} {w : World} {r : Ending} {Q : Ending → World → Prop} (h : Calls P f args w fun e w' => e = r ∧ w' = w) (hq : ∀ W, W = w → Q r W) : Calls P f args w Q :=
  h.mono fun _ _ ⟨he, hw⟩ => by subst he; exact hq _ hw

/-- The marker's length, by cases. -/
theorem markerL_none {zs : List Int} (h : (zs.take 10 == openL) = false) : markerL zs = 0 := by simp [markerL, h]
theorem markerL_bare {zs : List Int} (h : (zs.take 10 == openL) = true) (h0 : runL kindB (zs.drop 10) = 0) : markerL zs = 0 := by simp [markerL, h, kindEnd, h0]
theorem markerL_some {zs : List Int} {r n : Nat} (h : (zs.take 10 == openL) = true) (hr : runL kindB (zs.drop 10) = r) (h0 : 0 < r) (hn : aliasEnd zs (10 + r) = n) (h1 : n < zs.length) (h2 : (gx zs n == 93) = true) : markerL zs = n + 1 := by
  have e1 : ¬ n = zs.length := by omega
  have e2 : ¬ r = 0 := by omega
  have e3 : gx zs n = 93 := by simpa using h2
  simp [markerL, h, kindEnd, hr, hn, e1, e2, e3]
theorem markerL_off {zs : List Int} {r n : Nat} (h : (zs.take 10 == openL) = true) (hr : runL kindB (zs.drop 10) = r) (hn : aliasEnd zs (10 + r) = n) (h1 : n = zs.length ∨ (gx zs n == 93) = false) : markerL zs = 0 := by
  have e3 : n = zs.length ∨ ¬ gx zs n = 93 := by simpa using h1
  simp only [markerL, h, kindEnd, hr, hn]
  rcases e3 with e | e <;> simp [e]
theorem aliasEnd_yes {zs : List Int} {n : Nat} (h1 : n < zs.length) (h2 : (gx zs n == 58) = true) (h3 : spansL 12 aliasB (zs.drop (n + 1)) = true) : aliasEnd zs n = n + 13 := by simp [aliasEnd, h1, h2, h3]
theorem aliasEnd_no1 {zs : List Int} {n : Nat} (h1 : ¬ n < zs.length) : aliasEnd zs n = n := by simp [aliasEnd, h1]
theorem aliasEnd_no2 {zs : List Int} {n : Nat} (h2 : (gx zs n == 58) = false) : aliasEnd zs n = n := by simp [aliasEnd, h2]
theorem aliasEnd_no3 {zs : List Int} {n : Nat} (h3 : spansL 12 aliasB (zs.drop (n + 1)) = false) : aliasEnd zs n = n := by simp [aliasEnd, h3]

set_option maxHeartbeats 1000000 in
theorem markerLen_any {B : Nat} {v : Value} {zs : List Int} {w : World} (hB : B ≤ w.heap.size) (hv : Sl B w v zs) (hl : zs.length < 4194304) (hby : ByteL zs) :
    Calls Try.prog 51 #[v] w fun e w' => e = .returned (.int .i64 (markerL zs : Nat)) ∧ Below B w w' := by
  have kc := fun (w : World) (C : Array Value) (n c : Nat) => Lib.run_convert_bytes_const (P := Try.prog) w 22 5 C n c Try.underlying22 Try.underlying5
  have hbel : Below B w (w.alloc openObj) := (Below.refl B w).alloc hB openObj
  have hv1 := hv.below hbel
  have hpre := hasPrefix_ten hv1 (Sl_open w) hby openL_bytes hl rfl
  obtain ⟨b, o, c, hb, hc, rfl, hcell⟩ := hv1
  have HB : Hid (Below B w (w.alloc openObj)) := hbel
  clear hv hbel
  cases hop : (zs.take 10 == openL)
  · rw [hop] at hpre
    clear hcell
    go_enter Try.func51, Try.ntmps51
    go_wp2_with (fail)
    refine calls_same hpre ?_
    go_wp2
    go_ret
    exact ⟨retI (by rw [markerL_none hop]; rfl), HB.out⟩
  · rw [hop] at hpre
    have hten : 10 ≤ zs.length := by
      have := congrArg List.length (beq_iff_eq.1 hop)
      simp [openL] at this
      omega
    obtain ⟨r, hr⟩ : ∃ r, runL kindB (zs.drop 10) = r := ⟨_, rfl⟩
    have hrle : r + 10 ≤ zs.length := by
      have := runL_le kindB (zs.drop 10)
      simp at this
      omega
    have hrun : ∀ W, (∀ i, i < zs.length → W.cell? ⟨b, o + i, none⟩ = some (.int .u8 (gx zs i))) → Calls Try.prog 30 #[tailV b o zs.length c 10, .func (.func 55) #[] #[]] W fun e w' => e = .returned (.int .i64 (r : Nat)) ∧ w' = W := fun W hW => by
      have := run_kindB (Sl.tail hb hc hW 10 hten) (by simp; omega)
      rwa [hr] at this
    have hsl : ∀ W, (Instr.slice 22 (.slice (some ⟨b, o, none⟩) zs.length c) (some (.int .i64 10)) none none).run Try.prog W = .ok (tailV b o zs.length c 10) W := fun W => slice_from b o zs.length c 10 hten hc W
    by_cases h0 : r = 0
    · have e0 : ((10 : Int) + (r : Int) == 10) = true := by simp [h0]
      have H0 : Hid (r = 0) := h0
      clear h0
      go_enter Try.func51, Try.ntmps51
      go_wp2_with (fail)
      refine calls_to hpre fun W hW => ?_
      have HW : Hid (W = w.alloc openObj) := hW
      clear hW
      have hcW : ∀ i, i < zs.length → W.cell? ⟨b, o + i, none⟩ = some (.int .u8 (gx zs i)) := by rw [HW.out]; exact hcell
      clear hcell
      go_wp2_with (fail)
      refine calls_same (hrun W hcW) ?_
      go_wp2
      go_ret
      exact ⟨retI (by rw [markerL_bare hop (hr.trans H0.out)]; rfl), by rw [HW.out]; exact HB.out⟩
    · go_enter Try.func51, Try.ntmps51
      go_wp2_with (fail)
      refine calls_to hpre fun W hW => ?_
      have HW : Hid (W = w.alloc openObj) := hW
      clear hW
      have hcW : ∀ i, i < zs.length → W.cell? ⟨b, o + i, none⟩ = some (.int .u8 (gx zs i)) := by rw [HW.out]; exact hcell
      clear hcell
      have e0 : ((10 : Int) + (r : Int) == 10) = false := by simp; omega
      go_wp2_with (fail)
      refine calls_same (hrun W hcW) ?_
      clear hrun hsl hpre
      have hW2 : Below B w W := by rw [HW.out]; exact HB.out
      have HB2 : Hid (Below B w W) := hW2
      clear hW2 kc HB HW
      by_cases h1 : 10 + r < zs.length
      · have hc1 := hcW (10 + r) h1
        have e1 : ((10 : Int) + (r : Int) == (zs.length : Int)) = false := by simp; omega
        cases h58 : (gx zs (10 + r) == 58)
        · have hn := aliasEnd_no2 (zs := zs) (n := 10 + r) h58
          cases h93 : (gx zs (10 + r) == 93)
          · have h93' : (gx zs (10 + r) != 93) = true := by simp [bne, h93]
            clear hcW
            go_wp2
            go_ret
            exact ⟨retI (by rw [markerL_off hop hr hn (.inr h93)]; rfl), HB2.out⟩
          · have h93' : (gx zs (10 + r) != 93) = false := by simp [bne, h93]
            clear hcW
            go_wp2
            go_ret
            exact ⟨retI (by rw [markerL_some hop hr (by omega) hn h1 h93]; omega), HB2.out⟩
        · have hsl2 : ∀ W, (Instr.slice 22 (.slice (some ⟨b, o, none⟩) zs.length c) (some (.int .i64 ((10 : Int) + (r : Int) + 1))) none none).run Try.prog W = .ok (tailV b o zs.length c (10 + r + 1)) W := fun W => by
            have := slice_from b o zs.length c (10 + r + 1) (by omega) hc W
            rwa [show ((10 + r + 1 : Nat) : Int) = (10 : Int) + (r : Int) + 1 by omega] at this
          have hsp := spans_alias (Sl.tail hb hc hcW (10 + r + 1) (by omega)) (by simp; omega)
          cases hs12 : spansL 12 aliasB (zs.drop (10 + r + 1))
          · rw [hs12] at hsp
            have hn := aliasEnd_no3 (zs := zs) (n := 10 + r) hs12
            have h93 : (gx zs (10 + r) == 93) = false := by
              have : gx zs (10 + r) = 58 := by simpa using h58
              simp [this]
            have h93' : (gx zs (10 + r) != 93) = true := by simp [bne, h93]
            clear hcW
            go_wp2_with (fail)
            refine calls_same hsp ?_
            go_wp2
            go_ret
            exact ⟨retI (by rw [markerL_off hop hr hn (.inr h93)]; rfl), HB2.out⟩
          · rw [hs12] at hsp
            have hn := aliasEnd_yes h1 h58 hs12
            have hle : 10 + r + 13 ≤ zs.length := by
              have a1 : 12 ≤ runL aliasB (zs.drop (10 + r + 1)) := by simpa [spansL] using hs12
              have a2 := runL_le aliasB (zs.drop (10 + r + 1))
              simp at a2
              omega
            by_cases h2 : 10 + r + 13 < zs.length
            · have hc2 := hcW (10 + r + 13) h2
              have e2 : ((10 : Int) + (r : Int) + 13 == (zs.length : Int)) = false := by simp; omega
              cases h93 : (gx zs (10 + r + 13) == 93)
              · have h93' : (gx zs (10 + r + 13) != 93) = true := by simp [bne, h93]
                clear hcW
                go_wp2_with (fail)
                refine calls_same hsp ?_
                go_wp2
                go_ret
                exact ⟨retI (by rw [markerL_off hop hr hn (.inr h93)]; rfl), HB2.out⟩
              · have h93' : (gx zs (10 + r + 13) != 93) = false := by simp [bne, h93]
                clear hcW
                go_wp2_with (fail)
                refine calls_same hsp ?_
                go_wp2
                go_ret
                exact ⟨retI (by rw [markerL_some hop hr (by omega) hn h2 h93]; omega), HB2.out⟩
            · have e2 : ((10 : Int) + (r : Int) + 13 == (zs.length : Int)) = true := by simp; omega
              clear hcW
              go_wp2_with (fail)
              refine calls_same hsp ?_
              go_wp2
              go_ret
              exact ⟨retI (by rw [markerL_off hop hr hn (.inl (by omega))]; rfl), HB2.out⟩
      · have e1 : ((10 : Int) + (r : Int) == (zs.length : Int)) = true := by simp; omega
        have hn := aliasEnd_no1 (zs := zs) (n := 10 + r) h1
        clear hcW
        go_wp2
        go_ret
        exact ⟨retI (by rw [markerL_off hop hr hn (.inl (by omega))]; rfl), HB2.out⟩
end Go.Proofs.Qxb6613719a
