/- The closure of findURLPassword: is a password anchored at i? -/
import Derived.Test.Qxb6613719aKeeps2
namespace Go.Proofs.Qxb6613719a
open Go.RowKit
set_option linter.unusedVariables false

def midV (b o c lo hi : Nat) : Value := .slice (some ⟨b, if c = lo then o else o + lo, none⟩) (hi - lo) (c - lo)

theorem slice_mid (b o n c lo hi : Nat) (hlo : lo ≤ hi) (hn : hi ≤ c) (W : World) :
    (Instr.slice 22 (.slice (some ⟨b, o, none⟩) n c) (some (.int .i64 (lo : Int))) (some (.int .i64 (hi : Int))) none).run Try.prog W = .ok (midV b o c lo hi) W := by
  have ht : Try.prog.underlying 22 = some (.slice (Try.prog.elem 22)) := by simp [Program.elem, Try.underlying22]
  have he : Try.prog.elem 22 = 5 := by simp [Program.elem, Try.underlying22]
  rw [run_slice_lh W 22 _ _ _ ht .i64 .i64 _ _ (by omega) (by omega) (by omega), he, sizeU8]
  by_cases h : c = lo
  · simp [Result.andThen, sliced, midV, h]
  · simp [Result.andThen, sliced, midV, h, Addr.add]

theorem Sl.mid {B : Nat} {w : World} {b o c : Nat} {zs : List Int} (hb : b < B) (hc : zs.length ≤ c) (hcell : ∀ i, i < zs.length → w.cell? ⟨b, o + i, none⟩ = some (.int .u8 (gx zs i))) (lo hi : Nat) (hlo : lo ≤ hi) (hhi : hi ≤ zs.length) :
    Sl B w (midV b o c lo hi) (midL zs lo hi) := by
  have hl : (midL zs lo hi).length = hi - lo := by simp [midL]; omega
  refine ⟨b, if c = lo then o else o + lo, c - lo, hb, by omega, by rw [hl]; rfl, fun i hi' => ?_⟩
  rw [if_neg (by omega), midL, gx_take _ _ _ (by omega), gx_drop, Nat.add_assoc]
  exact hcell (lo + i) (by omega)

theorem letter_scheme {c : Int} (h : letterB c = true) : schemeB c = true := by
  simp only [letterB, Bool.or_eq_true] at h
  rcases h with h | h <;> simp [schemeB, alnumB, h]

theorem backL_go {zs : List Int} {m : Nat} (h1 : schemeB (gx zs m) = true) (h2 : letterB (gx zs m) = false) : backL zs (m + 1) = backL zs m := by simp [backL, h1, h2]
theorem backL_no {zs : List Int} {m : Nat} (h1 : schemeB (gx zs m) = false) (h2 : letterB (gx zs m) = false) : backL zs (m + 1) = false := by simp [backL, h1, h2]
theorem backL_yes {zs : List Int} {m : Nat} (h2 : letterB (gx zs m) = true) : backL zs (m + 1) = true := by simp [backL, h2]

/-- What the closure hands back. -/
def atV (zs : List Int) (i : Nat) : Value := .tuple #[.int .i64 (spanL zs (if hitL zs i then some i else none)).1, .int .i64 (spanL zs (if hitL zs i then some i else none)).2]

theorem atV_no {zs : List Int} {i : Nat} (h : hitL zs i = false) : Ending.returned (.tuple #[.int .i64 (-1), .int .i64 (-1)]) = .returned (atV zs i) := by simp [atV, h, spanL]
theorem atV_yes {zs : List Int} {i : Nat} (h : hitL zs i = true) {x y : Int} (hx : x = ((userEnd zs i + 1 : Nat) : Int)) (hy : y = ((passEnd zs (userEnd zs i + 1) : Nat) : Int)) : Ending.returned (.tuple #[.int .i64 x, .int .i64 y]) = .returned (atV zs i) := by
  subst hx; subst hy
  simp [atV, h, spanL]

theorem hit_back {zs : List Int} {i : Nat} (h : backL zs i = false) : hitL zs i = false := by simp [hitL, h]
theorem hit_user {zs : List Int} {i s : Nat} (hs : userEnd zs i = s) (h : s = zs.length ∨ (gx zs s == 58) = false) : hitL zs i = false := by
  rcases h with h | h <;> simp [hitL, hs, h]
theorem hit_pass {zs : List Int} {i s e : Nat} (hs : userEnd zs i = s) (he : passEnd zs (s + 1) = e) (h : e = zs.length ∨ (gx zs e == 64) = false) : hitL zs i = false := by
  rcases h with h | h <;> simp [hitL, hs, he, h]
theorem hit_keep {zs : List Int} {i s e : Nat} (hs : userEnd zs i = s) (he : passEnd zs (s + 1) = e) (h : keepsL (midL zs (s + 1) e) = true) : hitL zs i = false := by
  simp [hitL, hs, he, h]
theorem hit_yes {zs : List Int} {i s e : Nat} (hb : backL zs i = true) (hs : userEnd zs i = s) (he : passEnd zs (s + 1) = e) (h1 : s < zs.length) (h2 : (gx zs s == 58) = true) (h3 : e < zs.length) (h4 : (gx zs e == 64) = true) (h : keepsL (midL zs (s + 1) e) = false) : hitL zs i = true := by
  have n1 : ¬ s = zs.length := by omega
  have n2 : ¬ e = zs.length := by omega
  simp [hitL, hb, hs, he, h, h2, h4, n1, n2]

set_option maxHeartbeats 4000000 in
theorem at_any {B T b o c : Nat} {zs : List Int} {w : World} (i : Nat) (hi : i + 3 ≤ zs.length) (hB : B ≤ w.heap.size) (hT : T < B) (hb : b < B) (hc : zs.length ≤ c)
    (hcT : w.cell? ⟨T, 0, none⟩ = some (.slice (some ⟨b, o, none⟩) zs.length c)) (hcell : ∀ i, i < zs.length → w.cell? ⟨b, o + i, none⟩ = some (.int .u8 (gx zs i))) (hl : zs.length < 4194304) (hby : ByteL zs) :
    Calls Try.prog 35 #[.int .i64 i, .pointer (some ⟨T, 0, none⟩)] w fun e w' => e = .returned (atV zs i) ∧ Below B w w' := by
  go_enter Try.func35, Try.ntmps35
  go_wp2
  go_loop [5] (fun j => (j = .int .i64 (-1) ∧ backL zs i = false) ∨ ∃ m : Nat, m < i ∧ j = .int .i64 m ∧ backL zs i = backL zs (m + 1)) (fun j => (intOf j + 1).toNat)
  case atStart =>
    cases i with
    | zero => exact .inl ⟨rfl, rfl⟩
    | succ m => exact .inr ⟨m, by omega, by go_num, rfl⟩
  case round =>
    rcases hrel with ⟨rfl, hbk⟩ | ⟨m, hm, rfl, hbk⟩
    · have HK : Hid _ := hbk
      clear hbk
      go_wp2
      go_ret2
      exact ⟨atV_no (hit_back HK.out), Below.refl _ _⟩
    · have HK : Hid _ := hbk
      clear hbk
      have hcm := hcell m (by omega)
      cases hlt : letterB (gx zs m) <;> cases hsc : schemeB (gx zs m)
      · go_wp2_with (first | (go_at_call 36; refine calls_same (isSchemeByte_any _ _) ?_; rw [hsc]) | (go_at_call 32; refine calls_same (isLetter_any _ _) ?_; rw [hlt]))
        go_ret2
        exact ⟨atV_no (hit_back (HK.out.trans (backL_no hsc hlt))), Below.refl _ _⟩
      · go_wp2_with (first | (go_at_call 36; refine calls_same (isSchemeByte_any _ _) ?_; rw [hsc]) | (go_at_call 32; refine calls_same (isLetter_any _ _) ?_; rw [hlt]))
        go_round
        case rel =>
          cases m with
          | zero => exact .inl ⟨by go_num, HK.out.trans (backL_go hsc hlt)⟩
          | succ m => exact .inr ⟨m, by omega, by go_num, HK.out.trans (backL_go hsc hlt)⟩
        case measure => simp [intOf] <;> omega
      · rw [letter_scheme hlt] at hsc; cases hsc
      · have hback : Hid (backL zs i = true) := HK.out.trans (backL_yes hlt)
        clear HK
        obtain ⟨r, hr⟩ : ∃ r, runL userB (zs.drop (i + 3)) = r := ⟨_, rfl⟩
        have hrle : i + 3 + r ≤ zs.length := by
          have := runL_le userB (zs.drop (i + 3))
          simp at this
          omega
        have hrun := run_userB (Sl.tail hb hc hcell (i + 3) hi) (by simp; omega)
        rw [hr] at hrun
        have hue : Hid (userEnd zs i = i + 3 + r) := by rw [Hid, userEnd, hr]
        clear hr
        have hsl : ∀ W, (Instr.slice 22 (.slice (some ⟨b, o, none⟩) zs.length c) (some (.int .i64 ((i : Int) + 3))) none none).run Try.prog W = .ok (tailV b o zs.length c (i + 3)) W := fun W => slice_from b o zs.length c (i + 3) hi hc W
        go_wp2_with (first | (go_at_call 36; refine calls_same (isSchemeByte_any _ _) ?_; rw [hsc]) | (go_at_call 32; refine calls_same (isLetter_any _ _) ?_; rw [hlt]))
        refine calls_same hrun ?_
        clear hrun hsl
        by_cases h1 : i + 3 + r < zs.length
        · have hc1 := hcell (i + 3 + r) h1
          have e1 : ((i : Int) + 3 + (r : Int) == (zs.length : Int)) = false := by simp; omega
          cases h58 : (gx zs (i + 3 + r) == 58)
          · have h58' : (gx zs (i + 3 + r) != 58) = true := by simp [bne, h58]
            clear hcell
            go_wp2
            go_ret2
            exact ⟨atV_no (hit_user hue.out (.inr h58)), Below.refl _ _⟩
          · have h58' : (gx zs (i + 3 + r) != 58) = false := by simp [bne, h58]
            obtain ⟨q, hq⟩ : ∃ q, runL passB (zs.drop (i + 3 + r + 1)) = q := ⟨_, rfl⟩
            have hqle : i + 3 + r + 1 + q ≤ zs.length := by
              have := runL_le passB (zs.drop (i + 3 + r + 1))
              simp at this
              omega
            have hrun := run_passB (Sl.tail hb hc hcell (i + 3 + r + 1) (by omega)) (by simp; omega)
            rw [hq] at hrun
            have hpe : Hid (passEnd zs (i + 3 + r + 1) = i + 3 + r + 1 + q) := by rw [Hid, passEnd, hq]
            clear hq
            have hsl : ∀ W, (Instr.slice 22 (.slice (some ⟨b, o, none⟩) zs.length c) (some (.int .i64 ((i : Int) + 3 + (r : Int) + 1))) none none).run Try.prog W = .ok (tailV b o zs.length c (i + 3 + r + 1)) W := fun W => by
              have := slice_from b o zs.length c (i + 3 + r + 1) (by omega) hc W
              rwa [show ((i + 3 + r + 1 : Nat) : Int) = (i : Int) + 3 + (r : Int) + 1 by omega] at this
            go_wp2_with (fail)
            refine calls_same hrun ?_
            clear hrun hsl
            by_cases h2 : i + 3 + r + 1 + q < zs.length
            · have hc2 := hcell (i + 3 + r + 1 + q) h2
              have e2 : ((i : Int) + 3 + (r : Int) + 1 + (q : Int) == (zs.length : Int)) = false := by simp; omega
              cases h64 : (gx zs (i + 3 + r + 1 + q) == 64)
              · have h64' : (gx zs (i + 3 + r + 1 + q) != 64) = true := by simp [bne, h64]
                clear hcell
                go_wp2
                go_ret2
                exact ⟨atV_no (hit_pass hue.out hpe.out (.inr h64)), Below.refl _ _⟩
              · have h64' : (gx zs (i + 3 + r + 1 + q) != 64) = false := by simp [bne, h64]
                have hkp := keeps_any hB (Sl.mid hb hc hcell (i + 3 + r + 1) (i + 3 + r + 1 + q) (by omega) hqle) (by simp [midL]; omega) ((hby.drop _).take _)
                have hsm : ∀ W, (Instr.slice 22 (.slice (some ⟨b, o, none⟩) zs.length c) (some (.int .i64 ((i : Int) + 3 + (r : Int) + 1))) (some (.int .i64 ((i : Int) + 3 + (r : Int) + 1 + (q : Int)))) none).run Try.prog W = .ok (midV b o c (i + 3 + r + 1) (i + 3 + r + 1 + q)) W := fun W => by
                  have := slice_mid b o zs.length c (i + 3 + r + 1) (i + 3 + r + 1 + q) (by omega) (by omega) W
                  rwa [show ((i + 3 + r + 1 + q : Nat) : Int) = (i : Int) + 3 + (r : Int) + 1 + (q : Int) by omega, show ((i + 3 + r + 1 : Nat) : Int) = (i : Int) + 3 + (r : Int) + 1 by omega] at this
                clear hcell
                cases hk : keepsL (midL zs (i + 3 + r + 1) (i + 3 + r + 1 + q))
                · rw [hk] at hkp
                  go_wp2_with (fail)
                  refine hkp.mono ?_
                  rintro e w1 ⟨rfl, hb1⟩
                  go_wp2
                  go_ret2
                  exact ⟨atV_yes (hit_yes hback.out hue.out hpe.out h1 h58 h2 h64 hk) (by rw [hue.out]; omega) (by rw [hue.out, hpe.out]; omega), hb1⟩
                · rw [hk] at hkp
                  go_wp2_with (fail)
                  refine hkp.mono ?_
                  rintro e w1 ⟨rfl, hb1⟩
                  go_wp2
                  go_ret2
                  exact ⟨atV_no (hit_keep hue.out hpe.out hk), hb1⟩
            · have e2 : ((i : Int) + 3 + (r : Int) + 1 + (q : Int) == (zs.length : Int)) = true := by simp; omega
              clear hcell
              go_wp2
              go_ret2
              exact ⟨atV_no (hit_pass hue.out hpe.out (.inl (by omega))), Below.refl _ _⟩
        · have e1 : ((i : Int) + 3 + (r : Int) == (zs.length : Int)) = true := by simp; omega
          clear hcell
          go_wp2
          go_ret2
          exact ⟨atV_no (hit_user hue.out (.inl (by omega))), Below.refl _ _⟩
end Go.Proofs.Qxb6613719a
