/- The model's zzURLModel. -/
import Derived.Test.Qxb6613719aModelC
import Derived.Test.Qxb6613719aFind
namespace Go.Proofs.Qxb6613719a
open Go.RowKit
set_option linter.unusedVariables false
set_option linter.unusedSimpArgs false

theorem anchor_no0 {zs : List Int} {a : Nat} (h : (gx zs a == 58) = false) : (anchorL zs a && hitL zs a) = false := by simp [anchorL, h]
theorem anchor_no1 {zs : List Int} {a : Nat} (h : (gx zs (a + 1) == 47) = false) : (anchorL zs a && hitL zs a) = false := by simp [anchorL, h]
theorem anchor_no2 {zs : List Int} {a : Nat} (h : (gx zs (a + 2) == 47) = false) : (anchorL zs a && hitL zs a) = false := by simp [anchorL, h]
theorem miss_next {zs : List Int} {a : Nat} (h : hitL zs a = false) : (anchorL zs a && hitL zs a) = false := by simp [h]

theorem userEnd_eq {zs : List Int} {a p : Nat} (h1 : a + 3 ≤ p) (h2 : p ≤ zs.length) (h3 : ∀ t, a + 3 ≤ t → t < p → userB (gx zs t) = true) (h4 : p < zs.length → userB (gx zs p) = false) : userEnd zs a = p := by
  have : runL userB (zs.drop (a + 3)) = p - (a + 3) := runL_eq _ _ _ (by simp; omega) (fun t ht => by rw [gx_drop]; exact h3 _ (by omega) (by omega)) (fun h => by rw [gx_drop, show a + 3 + (p - (a + 3)) = p by omega]; exact h4 (by simp at h; omega))
  rw [userEnd, this]
  omega
theorem passEnd_eq {zs : List Int} {s q : Nat} (h1 : s ≤ q) (h2 : q ≤ zs.length) (h3 : ∀ t, s ≤ t → t < q → passB (gx zs t) = true) (h4 : q < zs.length → passB (gx zs q) = false) : passEnd zs s = q := by
  have : runL passB (zs.drop s) = q - s := runL_eq _ _ _ (by simp; omega) (fun t ht => by rw [gx_drop]; exact h3 _ (by omega) (by omega)) (fun h => by rw [gx_drop, show s + (q - s) = q by omega]; exact h4 (by simp at h; omega))
  rw [passEnd, this]
  omega

set_option maxHeartbeats 8000000 in
set_option maxRecDepth 100000 in
theorem mModel_any {B b o c : Nat} {zs : List Int} {w : World} (f : Nat) (hf : f ≤ zs.length) (hb : b < B) (hc : zs.length ≤ c)
    (hcell : ∀ i, i < zs.length → w.cell? ⟨b, o + i, none⟩ = some (.int .u8 (gx zs i))) (hl : zs.length < 4194304) (hby : ByteL zs) :
    Calls Try.prog 11 #[.slice (some ⟨b, o, none⟩) zs.length c, .int .i64 f] w fun e w' => e = foundE zs f ∧ Below B w w' := by
  go_enter Try.func11, Try.ntmps11
  go_wp2
  go_loopw [6] (fun i wr => ∃ a : Nat, a ≤ zs.length ∧ i = .int .i64 a ∧ Below B w wr ∧ searchL zs f = searchL zs a) (fun i _ => zs.length + 1 - (intOf i).toNat)
  case atStart => exact ⟨f, hf, rfl, Below.refl _ _, rfl⟩
  case round =>
    obtain ⟨a, ha, rfl, hbel, hse⟩ := hrel
    have HS : Hid (searchL zs f = searchL zs a) := hse
    have HB : Hid (Below B w wr) := hbel
    have hcr : ∀ i, i < zs.length → wr.cell? ⟨b, o + i, none⟩ = some (.int .u8 (gx zs i)) := fun i hi => (hbel.cell (p := ⟨b, o + i, none⟩) hb).trans (hcell i hi)
    clear hse hbel hcell
    by_cases hlt : a + 3 ≤ zs.length
    · have hltI : (a : Int) + 3 ≤ (zs.length : Int) := by omega
      have hc0 := hcr a (by omega)
      have hc1 := hcr (a + 1) (by omega)
      have hc2 := hcr (a + 2) (by omega)
      cases h0 : (gx zs a == 58)
      · have h0' : (gx zs a != 58) = true := by simp [bne, h0]
        clear hcr
        go_wp2
        go_roundw
        case rel => exact ⟨a + 1, by omega, by go_num, HB.out, by rw [HS.out]; exact searchL_next hlt (anchor_no0 h0)⟩
        case measure => simp [intOf]; omega
      · have h0' : (gx zs a != 58) = false := by simp [bne, h0]
        cases h1 : (gx zs (a + 1) == 47)
        · have h1' : (gx zs (a + 1) != 47) = true := by simp [bne, h1]
          clear hcr
          go_wp2
          go_roundw
          case rel => exact ⟨a + 1, by omega, by go_num, HB.out, by rw [HS.out]; exact searchL_next hlt (anchor_no1 h1)⟩
          case measure => simp [intOf]; omega
        · have h1' : (gx zs (a + 1) != 47) = false := by simp [bne, h1]
          cases h2 : (gx zs (a + 2) == 47)
          · have h2' : (gx zs (a + 2) != 47) = true := by simp [bne, h2]
            clear hcr
            go_wp2
            go_roundw
            case rel => exact ⟨a + 1, by omega, by go_num, HB.out, by rw [HS.out]; exact searchL_next hlt (anchor_no2 h2)⟩
            case measure => simp [intOf]; omega
          · have h2' : (gx zs (a + 2) != 47) = false := by simp [bne, h2]
            have han : anchorL zs a = true := by simp [anchorL, h0, h1, h2]
            go_wp2
            clear hc0 hc1 hc2 h0 h1 h2 h0' h1' h2'
            go_loop [7] (fun j => ∃ k : Nat, k ≤ a ∧ j = .int .i64 k ∧ startL zs a = startL zs k) (fun j => (intOf j).toNat)
            case atStart => exact ⟨a, Nat.le_refl _, rfl, rfl⟩
            case round =>
              obtain ⟨k, hk, rfl, hst⟩ := hrel
              have HT : Hid (startL zs a = startL zs k) := hst
              clear hst
              by_cases hgo : ∃ m, k = m + 1 ∧ schemeB (gx zs m) = true
              · obtain ⟨m, rfl, hsc⟩ := hgo
                have hcm := hcr m (by omega)
                clear hcr
                go_wp2_with (go_at_call 23; refine calls_same (mScheme_any _ _) ?_; rw [hsc])
                go_round
                case rel => exact ⟨m, by omega, by go_num, HT.out.trans (by simp [startL, hsc])⟩
                case measure => simp [intOf]
              · have hend : startL zs a = k := by
                  rw [HT.out]
                  cases k with
                  | zero => rfl
                  | succ m =>
                    have : schemeB (gx zs m) = false := by
                      rw [Bool.eq_false_iff]; exact fun h => hgo ⟨m, rfl, h⟩
                    simp [startL, this]
                have hba : Hid (someLetter zs (a - k) k = backL zs a) := by rw [Hid, ← hend]; exact back_eq zs a
                clear hend HT
                rcases Nat.eq_zero_or_pos k with hk0 | hkp
                · subst hk0
                  go_wp2
                  go_loop [8, 9] (fun st i => ∃ (n : Nat) (sb : Bool), n ≤ a ∧ st = .bool sb ∧ i = .int .i64 n ∧ (sb || someLetter zs (a - n) n) = backL zs a) (fun _ i => a - (intOf i).toNat)
                  case atStart => exact ⟨0, false, by omega, rfl, by go_num, hba.out⟩
                  case round =>
                    obtain ⟨n, sb, hn, rfl, rfl, hsl⟩ := hrel
                    have HL : Hid ((sb || someLetter zs (a - n) n) = backL zs a) := hsl
                    clear hsl hba
                    by_cases hna : n < a
                    · have hcn := hcr n (by omega)
                      have HN : Hid (someLetter zs (a - n) n = (letterB (gx zs n) || someLetter zs (a - (n + 1)) (n + 1))) := by rw [Hid, show a - n = (a - (n + 1)) + 1 by omega]; rfl
                      clear hcr
                      cases hle : letterB (gx zs n)
                      · go_wp2_with (go_at_call 24; refine calls_same (mLetter_any _ _) ?_; rw [hle])
                        go_round
                        case rel => exact ⟨n + 1, sb, by omega, rfl, by go_num, by rw [← HL.out, HN.out, hle]; simp⟩
                        case measure => simp [intOf]; omega
                      · go_wp2_with (go_at_call 24; refine calls_same (mLetter_any _ _) ?_; rw [hle])
                        go_round
                        case rel => exact ⟨n + 1, true, by omega, rfl, by go_num, by rw [← HL.out, HN.out, hle]; simp⟩
                        case measure => simp [intOf]; omega
                    · have HBK : Hid (backL zs a = sb) := by rw [Hid, ← HL.out, show a - n = 0 by omega]; simp [someLetter]
                      clear HL
                      cases sb
                      · clear hcr
                        go_wp2
                        go_roundw
                        case rel => exact ⟨a + 1, by omega, by go_num, HB.out, by rw [HS.out]; exact searchL_next hlt (miss_next (hit_back HBK.out))⟩
                        case measure => simp [intOf]; omega
                      · go_wp2
                        go_loop [10] (fun i => ∃ p : Nat, a + 3 ≤ p ∧ p ≤ zs.length ∧ i = .int .i64 p ∧ ∀ t, a + 3 ≤ t → t < p → userB (gx zs t) = true) (fun i => zs.length - (intOf i).toNat)
                        case atStart => exact ⟨a + 3, Nat.le_refl _, hlt, by go_num, fun t h1 h2 => absurd h1 (by omega)⟩
                        case round =>
                          obtain ⟨p, hpa, hpl, rfl, hpp⟩ := hrel
                          have HP : Hid (∀ t, a + 3 ≤ t → t < p → userB (gx zs t) = true) := hpp
                          clear hpp
                          by_cases hp : p < zs.length
                          · have hcp := hcr p hp
                            have hpI : (p : Int) < (zs.length : Int) := by omega
                            have epl : ((p : Int) == (zs.length : Int)) = false := by rw [beq_eq_false_iff_ne]; omega
                            cases h58 : (gx zs p == 58)
                            · have h58' : (gx zs p != 58) = true := by simp [bne, h58]
                              cases h64 : (gx zs p == 64)
                              · have h64' : (gx zs p != 64) = true := by simp [bne, h64]
                                cases h47 : (gx zs p == 47)
                                · have h47' : (gx zs p != 47) = true := by simp [bne, h47]
                                  clear hcr
                                  cases hsp : spaceB (gx zs p)
                                  · go_wp2_with (go_at_call 25; refine calls_same (mSpace_any _ _) ?_; rw [hsp])
                                    go_round
                                    case rel => exact ⟨p + 1, by omega, by omega, by go_num, fun t h1 h2 => by rcases Nat.lt_or_ge t p with h | h; exact HP.out t h1 h; exact (show t = p by omega) ▸ (by simp [userB, passB, h58', h64', h47', hsp])⟩
                                    case measure => simp [intOf]; omega
                                  · have hue : Hid (userEnd zs a = p) := userEnd_eq hpa hpl HP.out (fun _ => by simp [userB, passB, hsp])
                                    go_wp2_with (go_at_call 25; refine calls_same (mSpace_any _ _) ?_; rw [hsp])
                                    go_roundw
                                    case rel => exact ⟨a + 1, by omega, by go_num, HB.out, by rw [HS.out]; exact searchL_next hlt (miss_next (hit_user hue.out (.inr h58)))⟩
                                    case measure => simp [intOf]; omega
                                · have h47' : (gx zs p != 47) = false := by simp [bne, h47]
                                  have hue : Hid (userEnd zs a = p) := userEnd_eq hpa hpl HP.out (fun _ => by simp [userB, passB, h47'])
                                  clear hcr
                                  go_wp2
                                  go_roundw
                                  case rel => exact ⟨a + 1, by omega, by go_num, HB.out, by rw [HS.out]; exact searchL_next hlt (miss_next (hit_user hue.out (.inr h58)))⟩
                                  case measure => simp [intOf]; omega
                              · have h64' : (gx zs p != 64) = false := by simp [bne, h64]
                                have hue : Hid (userEnd zs a = p) := userEnd_eq hpa hpl HP.out (fun _ => by simp [userB, passB, h64'])
                                clear hcr
                                go_wp2
                                go_roundw
                                case rel => exact ⟨a + 1, by omega, by go_num, HB.out, by rw [HS.out]; exact searchL_next hlt (miss_next (hit_user hue.out (.inr h58)))⟩
                                case measure => simp [intOf]; omega
                            · have h58' : (gx zs p != 58) = false := by simp [bne, h58]
                              have hue : Hid (userEnd zs a = p) := userEnd_eq hpa hpl HP.out (fun _ => by simp [userB, bne, h58])
                              clear HP
                              go_wp2
                              go_loop [11] (fun i => ∃ q : Nat, p + 1 ≤ q ∧ q ≤ zs.length ∧ i = .int .i64 q ∧ ∀ t, p + 1 ≤ t → t < q → passB (gx zs t) = true) (fun i => zs.length - (intOf i).toNat)
                              case atStart => exact ⟨p + 1, Nat.le_refl _, by omega, by go_num, fun t h1 h2 => absurd h1 (by omega)⟩
                              case round =>
                                obtain ⟨q, hpq, hq, rfl, hqa⟩ := hrel
                                have HQ : Hid (∀ t, p + 1 ≤ t → t < q → passB (gx zs t) = true) := hqa
                                clear hqa
                                by_cases hql : q < zs.length
                                · have hcq := hcr q hql
                                  have hqlI : (q : Int) < (zs.length : Int) := by omega
                                  have eql : ((q : Int) == (zs.length : Int)) = false := by rw [beq_eq_false_iff_ne]; omega
                                  cases h64 : (gx zs q == 64)
                                  · have h64' : (gx zs q != 64) = true := by simp [bne, h64]
                                    cases h47 : (gx zs q == 47)
                                    · have h47' : (gx zs q != 47) = true := by simp [bne, h47]
                                      clear hcr
                                      cases hsp : spaceB (gx zs q)
                                      · go_wp2_with (go_at_call 25; refine calls_same (mSpace_any _ _) ?_; rw [hsp])
                                        go_round
                                        case rel => exact ⟨q + 1, by omega, by omega, by go_num, fun t h1 h2 => by rcases Nat.lt_or_ge t q with h | h; exact HQ.out t h1 h; exact (show t = q by omega) ▸ (by simp [passB, h64', h47', hsp])⟩
                                        case measure => simp [intOf]; omega
                                      · have hpe : Hid (passEnd zs (p + 1) = q) := passEnd_eq hpq hq HQ.out (fun _ => by simp [passB, hsp])
                                        go_wp2_with (go_at_call 25; refine calls_same (mSpace_any _ _) ?_; rw [hsp])
                                        go_roundw
                                        case rel => exact ⟨a + 1, by omega, by go_num, HB.out, by rw [HS.out]; exact searchL_next hlt (miss_next (hit_pass hue.out hpe.out (.inr h64)))⟩
                                        case measure => simp [intOf]; omega
                                    · have h47' : (gx zs q != 47) = false := by simp [bne, h47]
                                      have hpe : Hid (passEnd zs (p + 1) = q) := passEnd_eq hpq hq HQ.out (fun _ => by simp [passB, h47'])
                                      clear hcr
                                      go_wp2
                                      go_roundw
                                      case rel => exact ⟨a + 1, by omega, by go_num, HB.out, by rw [HS.out]; exact searchL_next hlt (miss_next (hit_pass hue.out hpe.out (.inr h64)))⟩
                                      case measure => simp [intOf]; omega
                                  · have h64' : (gx zs q != 64) = false := by simp [bne, h64]
                                    have hpe : Hid (passEnd zs (p + 1) = q) := passEnd_eq hpq hq HQ.out (fun _ => by simp [passB, bne, h64])
                                    have hkp := mKept_any (Sl.mid hb hc hcr (p + 1) q hpq hq) (by simp [midL]; omega) ((hby.drop _).take _)
                                    rw [kept_eq] at hkp
                                    have hsm : ∀ W, (Instr.slice 22 (.slice (some ⟨b, o, none⟩) zs.length c) (some (.int .i64 ((p : Int) + 1))) (some (.int .i64 (q : Int))) none).run Try.prog W = .ok (midV b o c (p + 1) q) W := fun W => slice_mid b o zs.length c (p + 1) q hpq (by omega) W
                                    clear hcr HQ
                                    cases hk : keepsL (midL zs (p + 1) q)
                                    · rw [hk] at hkp
                                      go_wp2_with (fail)
                                      refine hkp.mono ?_
                                      rintro e w1 ⟨rfl, hb1⟩
                                      go_wp2
                                      go_ret2
                                      refine ⟨?_, HB.out.trans hb1⟩
                                      rw [foundE, HS.out, searchL_hit hlt han (hit_yes HBK.out hue.out hpe.out hp h58 hql h64 hk)]
                                      rw [spanL, hue.out, hpe.out]
                                      go_num
                                    · rw [hk] at hkp
                                      go_wp2_with (fail)
                                      refine hkp.mono ?_
                                      rintro e w1 ⟨rfl, hb1⟩
                                      have HB1 : Hid (Below B w w1) := HB.out.trans hb1
                                      clear hb1 hkp hsm
                                      go_wp2
                                      go_roundw
                                      case rel => exact ⟨a + 1, by omega, by go_num, HB1.out, by rw [HS.out]; exact searchL_next hlt (miss_next (hit_keep hue.out hpe.out hk))⟩
                                      case measure => simp [intOf]; omega
                                · have hqlI : ¬ (q : Int) < (zs.length : Int) := by omega
                                  have eql : ((q : Int) == (zs.length : Int)) = true := by rw [beq_iff_eq]; omega
                                  have hpe : Hid (passEnd zs (p + 1) = q) := passEnd_eq hpq hq HQ.out (fun h => absurd h hql)
                                  clear hcr
                                  go_wp2
                                  go_roundw
                                  case rel => exact ⟨a + 1, by omega, by go_num, HB.out, by rw [HS.out]; exact searchL_next hlt (miss_next (hit_pass hue.out hpe.out (.inl (by omega))))⟩
                                  case measure => simp [intOf]; omega
                          · have hpI : ¬ (p : Int) < (zs.length : Int) := by omega
                            have epl : ((p : Int) == (zs.length : Int)) = true := by rw [beq_iff_eq]; omega
                            have hue : Hid (userEnd zs a = p) := userEnd_eq hpa hpl HP.out (fun h => absurd h hp)
                            clear hcr
                            go_wp2
                            go_roundw
                            case rel => exact ⟨a + 1, by omega, by go_num, HB.out, by rw [HS.out]; exact searchL_next hlt (miss_next (hit_user hue.out (.inl (by omega))))⟩
                            case measure => simp [intOf]; omega
                · obtain ⟨m, rfl⟩ : ∃ m, k = m + 1 := ⟨k - 1, by omega⟩
                  have hsc : schemeB (gx zs m) = false := by
                    rw [Bool.eq_false_iff]; exact fun h => hgo ⟨m, rfl, h⟩
                  have hcm := hcr m (by omega)
                  go_wp2_with (go_at_call 23; refine calls_same (mScheme_any _ _) ?_; rw [hsc])
                  clear hcm hsc hgo
                  go_loop [8, 9] (fun st i => ∃ (n : Nat) (sb : Bool), n ≤ a ∧ st = .bool sb ∧ i = .int .i64 n ∧ (sb || someLetter zs (a - n) n) = backL zs a) (fun _ i => a - (intOf i).toNat)
                  case atStart => exact ⟨m + 1, false, by omega, rfl, by go_num, hba.out⟩
                  case round =>
                    obtain ⟨n, sb, hn, rfl, rfl, hsl⟩ := hrel
                    have HL : Hid ((sb || someLetter zs (a - n) n) = backL zs a) := hsl
                    clear hsl hba
                    by_cases hna : n < a
                    · have hcn := hcr n (by omega)
                      have HN : Hid (someLetter zs (a - n) n = (letterB (gx zs n) || someLetter zs (a - (n + 1)) (n + 1))) := by rw [Hid, show a - n = (a - (n + 1)) + 1 by omega]; rfl
                      clear hcr
                      cases hle : letterB (gx zs n)
                      · go_wp2_with (go_at_call 24; refine calls_same (mLetter_any _ _) ?_; rw [hle])
                        go_round
                        case rel => exact ⟨n + 1, sb, by omega, rfl, by go_num, by rw [← HL.out, HN.out, hle]; simp⟩
                        case measure => simp [intOf]; omega
                      · go_wp2_with (go_at_call 24; refine calls_same (mLetter_any _ _) ?_; rw [hle])
                        go_round
                        case rel => exact ⟨n + 1, true, by omega, rfl, by go_num, by rw [← HL.out, HN.out, hle]; simp⟩
                        case measure => simp [intOf]; omega
                    · have HBK : Hid (backL zs a = sb) := by rw [Hid, ← HL.out, show a - n = 0 by omega]; simp [someLetter]
                      clear HL
                      cases sb
                      · clear hcr
                        go_wp2
                        go_roundw
                        case rel => exact ⟨a + 1, by omega, by go_num, HB.out, by rw [HS.out]; exact searchL_next hlt (miss_next (hit_back HBK.out))⟩
                        case measure => simp [intOf]; omega
                      · go_wp2
                        go_loop [10] (fun i => ∃ p : Nat, a + 3 ≤ p ∧ p ≤ zs.length ∧ i = .int .i64 p ∧ ∀ t, a + 3 ≤ t → t < p → userB (gx zs t) = true) (fun i => zs.length - (intOf i).toNat)
                        case atStart => exact ⟨a + 3, Nat.le_refl _, hlt, by go_num, fun t h1 h2 => absurd h1 (by omega)⟩
                        case round =>
                          obtain ⟨p, hpa, hpl, rfl, hpp⟩ := hrel
                          have HP : Hid (∀ t, a + 3 ≤ t → t < p → userB (gx zs t) = true) := hpp
                          clear hpp
                          by_cases hp : p < zs.length
                          · have hcp := hcr p hp
                            have hpI : (p : Int) < (zs.length : Int) := by omega
                            have epl : ((p : Int) == (zs.length : Int)) = false := by rw [beq_eq_false_iff_ne]; omega
                            cases h58 : (gx zs p == 58)
                            · have h58' : (gx zs p != 58) = true := by simp [bne, h58]
                              cases h64 : (gx zs p == 64)
                              · have h64' : (gx zs p != 64) = true := by simp [bne, h64]
                                cases h47 : (gx zs p == 47)
                                · have h47' : (gx zs p != 47) = true := by simp [bne, h47]
                                  clear hcr
                                  cases hsp : spaceB (gx zs p)
                                  · go_wp2_with (go_at_call 25; refine calls_same (mSpace_any _ _) ?_; rw [hsp])
                                    go_round
                                    case rel => exact ⟨p + 1, by omega, by omega, by go_num, fun t h1 h2 => by rcases Nat.lt_or_ge t p with h | h; exact HP.out t h1 h; exact (show t = p by omega) ▸ (by simp [userB, passB, h58', h64', h47', hsp])⟩
                                    case measure => simp [intOf]; omega
                                  · have hue : Hid (userEnd zs a = p) := userEnd_eq hpa hpl HP.out (fun _ => by simp [userB, passB, hsp])
                                    go_wp2_with (go_at_call 25; refine calls_same (mSpace_any _ _) ?_; rw [hsp])
                                    go_roundw
                                    case rel => exact ⟨a + 1, by omega, by go_num, HB.out, by rw [HS.out]; exact searchL_next hlt (miss_next (hit_user hue.out (.inr h58)))⟩
                                    case measure => simp [intOf]; omega
                                · have h47' : (gx zs p != 47) = false := by simp [bne, h47]
                                  have hue : Hid (userEnd zs a = p) := userEnd_eq hpa hpl HP.out (fun _ => by simp [userB, passB, h47'])
                                  clear hcr
                                  go_wp2
                                  go_roundw
                                  case rel => exact ⟨a + 1, by omega, by go_num, HB.out, by rw [HS.out]; exact searchL_next hlt (miss_next (hit_user hue.out (.inr h58)))⟩
                                  case measure => simp [intOf]; omega
                              · have h64' : (gx zs p != 64) = false := by simp [bne, h64]
                                have hue : Hid (userEnd zs a = p) := userEnd_eq hpa hpl HP.out (fun _ => by simp [userB, passB, h64'])
                                clear hcr
                                go_wp2
                                go_roundw
                                case rel => exact ⟨a + 1, by omega, by go_num, HB.out, by rw [HS.out]; exact searchL_next hlt (miss_next (hit_user hue.out (.inr h58)))⟩
                                case measure => simp [intOf]; omega
                            · have h58' : (gx zs p != 58) = false := by simp [bne, h58]
                              have hue : Hid (userEnd zs a = p) := userEnd_eq hpa hpl HP.out (fun _ => by simp [userB, bne, h58])
                              clear HP
                              go_wp2
                              go_loop [11] (fun i => ∃ q : Nat, p + 1 ≤ q ∧ q ≤ zs.length ∧ i = .int .i64 q ∧ ∀ t, p + 1 ≤ t → t < q → passB (gx zs t) = true) (fun i => zs.length - (intOf i).toNat)
                              case atStart => exact ⟨p + 1, Nat.le_refl _, by omega, by go_num, fun t h1 h2 => absurd h1 (by omega)⟩
                              case round =>
                                obtain ⟨q, hpq, hq, rfl, hqa⟩ := hrel
                                have HQ : Hid (∀ t, p + 1 ≤ t → t < q → passB (gx zs t) = true) := hqa
                                clear hqa
                                by_cases hql : q < zs.length
                                · have hcq := hcr q hql
                                  have hqlI : (q : Int) < (zs.length : Int) := by omega
                                  have eql : ((q : Int) == (zs.length : Int)) = false := by rw [beq_eq_false_iff_ne]; omega
                                  cases h64 : (gx zs q == 64)
                                  · have h64' : (gx zs q != 64) = true := by simp [bne, h64]
                                    cases h47 : (gx zs q == 47)
                                    · have h47' : (gx zs q != 47) = true := by simp [bne, h47]
                                      clear hcr
                                      cases hsp : spaceB (gx zs q)
                                      · go_wp2_with (go_at_call 25; refine calls_same (mSpace_any _ _) ?_; rw [hsp])
                                        go_round
                                        case rel => exact ⟨q + 1, by omega, by omega, by go_num, fun t h1 h2 => by rcases Nat.lt_or_ge t q with h | h; exact HQ.out t h1 h; exact (show t = q by omega) ▸ (by simp [passB, h64', h47', hsp])⟩
                                        case measure => simp [intOf]; omega
                                      · have hpe : Hid (passEnd zs (p + 1) = q) := passEnd_eq hpq hq HQ.out (fun _ => by simp [passB, hsp])
                                        go_wp2_with (go_at_call 25; refine calls_same (mSpace_any _ _) ?_; rw [hsp])
                                        go_roundw
                                        case rel => exact ⟨a + 1, by omega, by go_num, HB.out, by rw [HS.out]; exact searchL_next hlt (miss_next (hit_pass hue.out hpe.out (.inr h64)))⟩
                                        case measure => simp [intOf]; omega
                                    · have h47' : (gx zs q != 47) = false := by simp [bne, h47]
                                      have hpe : Hid (passEnd zs (p + 1) = q) := passEnd_eq hpq hq HQ.out (fun _ => by simp [passB, h47'])
                                      clear hcr
                                      go_wp2
                                      go_roundw
                                      case rel => exact ⟨a + 1, by omega, by go_num, HB.out, by rw [HS.out]; exact searchL_next hlt (miss_next (hit_pass hue.out hpe.out (.inr h64)))⟩
                                      case measure => simp [intOf]; omega
                                  · have h64' : (gx zs q != 64) = false := by simp [bne, h64]
                                    have hpe : Hid (passEnd zs (p + 1) = q) := passEnd_eq hpq hq HQ.out (fun _ => by simp [passB, bne, h64])
                                    have hkp := mKept_any (Sl.mid hb hc hcr (p + 1) q hpq hq) (by simp [midL]; omega) ((hby.drop _).take _)
                                    rw [kept_eq] at hkp
                                    have hsm : ∀ W, (Instr.slice 22 (.slice (some ⟨b, o, none⟩) zs.length c) (some (.int .i64 ((p : Int) + 1))) (some (.int .i64 (q : Int))) none).run Try.prog W = .ok (midV b o c (p + 1) q) W := fun W => slice_mid b o zs.length c (p + 1) q hpq (by omega) W
                                    clear hcr HQ
                                    cases hk : keepsL (midL zs (p + 1) q)
                                    · rw [hk] at hkp
                                      go_wp2_with (fail)
                                      refine hkp.mono ?_
                                      rintro e w1 ⟨rfl, hb1⟩
                                      go_wp2
                                      go_ret2
                                      refine ⟨?_, HB.out.trans hb1⟩
                                      rw [foundE, HS.out, searchL_hit hlt han (hit_yes HBK.out hue.out hpe.out hp h58 hql h64 hk)]
                                      rw [spanL, hue.out, hpe.out]
                                      go_num
                                    · rw [hk] at hkp
                                      go_wp2_with (fail)
                                      refine hkp.mono ?_
                                      rintro e w1 ⟨rfl, hb1⟩
                                      have HB1 : Hid (Below B w w1) := HB.out.trans hb1
                                      clear hb1 hkp hsm
                                      go_wp2
                                      go_roundw
                                      case rel => exact ⟨a + 1, by omega, by go_num, HB1.out, by rw [HS.out]; exact searchL_next hlt (miss_next (hit_keep hue.out hpe.out hk))⟩
                                      case measure => simp [intOf]; omega
                                · have hqlI : ¬ (q : Int) < (zs.length : Int) := by omega
                                  have eql : ((q : Int) == (zs.length : Int)) = true := by rw [beq_iff_eq]; omega
                                  have hpe : Hid (passEnd zs (p + 1) = q) := passEnd_eq hpq hq HQ.out (fun h => absurd h hql)
                                  clear hcr
                                  go_wp2
                                  go_roundw
                                  case rel => exact ⟨a + 1, by omega, by go_num, HB.out, by rw [HS.out]; exact searchL_next hlt (miss_next (hit_pass hue.out hpe.out (.inl (by omega))))⟩
                                  case measure => simp [intOf]; omega
                          · have hpI : ¬ (p : Int) < (zs.length : Int) := by omega
                            have epl : ((p : Int) == (zs.length : Int)) = true := by rw [beq_iff_eq]; omega
                            have hue : Hid (userEnd zs a = p) := userEnd_eq hpa hpl HP.out (fun h => absurd h hp)
                            clear hcr
                            go_wp2
                            go_roundw
                            case rel => exact ⟨a + 1, by omega, by go_num, HB.out, by rw [HS.out]; exact searchL_next hlt (miss_next (hit_user hue.out (.inl (by omega))))⟩
                            case measure => simp [intOf]; omega
    · clear hcr
      go_wp2
      go_ret2
      exact ⟨by rw [foundE, HS.out, searchL_end (by omega)]; rfl, HB.out⟩
end Go.Proofs.Qxb6613719a
