/- The walks of 'scan' and 'findURLPassword'. -/
import Derived.Test.Qxb6613719aScan
namespace Go.Proofs.Qxb6613719a
open Go.RowKit
set_option linter.unusedVariables false

theorem at_miss {B T b o c : Nat} {zs : List Int} {w : World} (i : Nat) (hi : i + 3 ≤ zs.length) (hB : B ≤ w.heap.size) (hT : T < B) (hb : b < B) (hc : zs.length ≤ c)
    (hcT : w.cell? ⟨T, 0, none⟩ = some (.slice (some ⟨b, o, none⟩) zs.length c)) (hcell : ∀ i, i < zs.length → w.cell? ⟨b, o + i, none⟩ = some (.int .u8 (gx zs i))) (hl : zs.length < 4194304) (hby : ByteL zs) (hh : hitL zs i = false) :
    Calls Try.prog 35 #[.int .i64 i, .pointer (some ⟨T, 0, none⟩)] w fun e w' => e = .returned (.tuple #[.int .i64 (-1), .int .i64 (-1)]) ∧ Below B w w' :=
  (at_any i hi hB hT hb hc hcT hcell hl hby).mono fun e w' ⟨he, h⟩ => ⟨by rw [he]; exact (atV_no hh).symm, h⟩
theorem at_hit {B T b o c : Nat} {zs : List Int} {w : World} (i : Nat) (hi : i + 3 ≤ zs.length) (hB : B ≤ w.heap.size) (hT : T < B) (hb : b < B) (hc : zs.length ≤ c)
    (hcT : w.cell? ⟨T, 0, none⟩ = some (.slice (some ⟨b, o, none⟩) zs.length c)) (hcell : ∀ i, i < zs.length → w.cell? ⟨b, o + i, none⟩ = some (.int .u8 (gx zs i))) (hl : zs.length < 4194304) (hby : ByteL zs) (hh : hitL zs i = true) :
    Calls Try.prog 35 #[.int .i64 i, .pointer (some ⟨T, 0, none⟩)] w fun e w' => e = .returned (.tuple #[.int .i64 ((userEnd zs i + 1 : Nat) : Int), .int .i64 ((passEnd zs (userEnd zs i + 1) : Nat) : Int)]) ∧ Below B w w' :=
  (at_any i hi hB hT hb hc hcT hcell hl hby).mono fun e w' ⟨he, h⟩ => ⟨by rw [he]; exact (atV_yes hh rfl rfl).symm, h⟩

set_option maxHeartbeats 4000000 in
theorem scan_any {B T b o c : Nat} {zs : List Int} {w : World} (f : Nat) (hf : f ≤ zs.length) (hB : B ≤ w.heap.size) (hT : T < B) (hb : b < B) (hc : zs.length ≤ c)
    (hcT : w.cell? ⟨T, 0, none⟩ = some (.slice (some ⟨b, o, none⟩) zs.length c)) (hcell : ∀ i, i < zs.length → w.cell? ⟨b, o + i, none⟩ = some (.int .u8 (gx zs i))) (hl : zs.length < 4194304) (hby : ByteL zs) :
    Calls Try.prog 34 #[.slice (some ⟨b, o, none⟩) zs.length c, .int .i64 f, .string { data := #[58, 47, 47] }, .int .i64 1, .func (.func 35) #[] #[.pointer (some ⟨T, 0, none⟩)]] w fun e w' =>
      e = .returned (.tuple #[.int .i64 (spanL zs (searchL zs f)).1, .int .i64 (spanL zs (searchL zs f)).2]) ∧ Below B w w' := by
  go_enter Try.func34, Try.ntmps34
  go_wp2
  go_loopw [13] (fun i wr => ∃ a : Nat, a ≤ zs.length ∧ i = .int .i64 ((a : Int) + 1) ∧ Below B w wr ∧ searchL zs f = searchL zs a) (fun i _ => zs.length + 1 - (intOf i).toNat)
  case atStart => exact ⟨f, hf, rfl, Below.refl _ _, rfl⟩
  case round =>
    obtain ⟨a, ha, rfl, hbel, hse⟩ := hrel
    have HS : Hid _ := hse
    have HB : Hid _ := hbel
    have hBr : B ≤ wr.heap.size := Nat.le_trans hB hbel.size
    have hcTr : wr.cell? ⟨T, 0, none⟩ = some (.slice (some ⟨b, o, none⟩) zs.length c) := (hbel.cell (p := ⟨T, 0, none⟩) hT).trans hcT
    have hcr : ∀ i, i < zs.length → wr.cell? ⟨b, o + i, none⟩ = some (.int .u8 (gx zs i)) := fun i hi => (hbel.cell (p := ⟨b, o + i, none⟩) hb).trans (hcell i hi)
    clear hse hbel hcT hcell
    by_cases hlt : a + 3 ≤ zs.length
    · have hsl : ∀ W, (Instr.slice 22 (.slice (some ⟨b, o, none⟩) zs.length c) (some (.int .i64 ((a : Int) + 1))) (some (.int .i64 ((zs.length : Int) - 3 + 1 + 1))) none).run Try.prog W = .ok (midV b o c (a + 1) (zs.length - 1)) W := fun W => by
        have := slice_mid b o zs.length c (a + 1) (zs.length - 1) (by omega) (by omega) W
        rwa [show ((a + 1 : Nat) : Int) = (a : Int) + 1 by omega, show ((zs.length - 1 : Nat) : Int) = (zs.length : Int) - 3 + 1 + 1 by omega] at this
      have hix : ∀ n, Calls Try.prog 44 #[midV b o c (a + 1) (zs.length - 1), .int .u8 47] (wr.drewN n) fun e w' => e = .returned (.int .i64 (idxI (midL zs (a + 1) (zs.length - 1)))) ∧ w' = wr.drewN n := fun n =>
        idx_any (Sl.mid (w := wr.drewN n) hb hc (fun i hi => by simpa using hcr i hi) (a + 1) (zs.length - 1) (by omega) (by omega)) ((hby.drop _).take _)
      have hl2 : (midL zs (a + 1) (zs.length - 1)).length = zs.length - 1 - (a + 1) := by simp [midL]; omega
      by_cases hr : runL slashB (midL zs (a + 1) (zs.length - 1)) = (midL zs (a + 1) (zs.length - 1)).length
      · have hid : idxI (midL zs (a + 1) (zs.length - 1)) = -1 := by rw [idxI, if_pos hr]
        rw [hid] at hix
        have HR : Hid _ := hr
        clear hr hid hl2
        go_wp2_with (fail)
        go_quiet ((go_at_call 44; exact Calls.quiet_of_same (hix _)))
        clear hix hsl hcr
        go_wp2
        go_ret2
        exact ⟨by rw [HS.out, search_none hlt HR.out]; rfl, below_drewN HB.out _⟩
      · obtain ⟨n, hn⟩ : ∃ n, runL slashB (midL zs (a + 1) (zs.length - 1)) = n := ⟨_, rfl⟩
        have hnl : n < (midL zs (a + 1) (zs.length - 1)).length := by have := runL_le slashB (midL zs (a + 1) (zs.length - 1)); omega
        have hid : idxI (midL zs (a + 1) (zs.length - 1)) = (n : Nat) := by rw [idxI, if_neg hr, hn]
        rw [hid] at hix
        obtain ⟨h3, hsn⟩ := search_some hlt hn hnl
        have HS2 : Hid (searchL zs f = searchL zs (a + n)) := HS.out.trans hsn
        clear hr hid hl2 hn hnl hsn HS
        go_wp2_with (fail)
        go_quiet ((go_at_call 44; exact Calls.quiet_of_same (hix _)))
        clear hix hsl
        have hcv : ∀ q, (convert 22 9 (.slice (some ⟨b, o + (a + n), none⟩) 3 (c - (a + n)))).run Try.prog (wr.drewN q) = .ok (.string (strOfNums (midL zs (a + n) (a + n + 3)))) (wr.drewN q) := fun q =>
          run_convert_bytes_arg (P := Try.prog) (wr.drewN q) 22 5 Try.underlying22 Try.underlying5 b (o + (a + n)) 3 (c - (a + n)) (midL zs (a + n) (a + n + 3)) (by simp [midL]; omega) (fun i hi => by
            have h1 : gx (midL zs (a + n) (a + n + 3)) i = gx zs (a + n + i) := by rw [midL, gx_take _ _ _ (by omega), gx_drop]
            have h2 : (midL zs (a + n) (a + n + 3)).getD i 0 = gx zs (a + n + i) := h1
            rw [h2, World.cell?_drewN, Nat.add_assoc]
            exact hcr _ (by omega)) 9 Try.underlying9
        have hq := anchor_mid (zs := zs) (a := a + n) h3 hby
        cases han : anchorL zs (a + n)
        · rw [han] at hq
          have hq' : ((strOfNums (midL zs (a + n) (a + n + 3))).toList != [58, 47, 47]) = true := by simp [bne, hq]
          clear hcr
          go_wp2
          go_roundw
          case rel => exact ⟨a + n + 1, by omega, by go_num, below_drewN HB.out _, by rw [HS2.out]; exact searchL_next h3 (by rw [han]; rfl)⟩
          case measure => simp [intOf]; omega
        · rw [han] at hq
          have hq' : ((strOfNums (midL zs (a + n) (a + n + 3))).toList != [58, 47, 47]) = false := by simp [bne, hq]
          cases hh : hitL zs (a + n)
          · have hat := fun q => at_miss (w := wr.drewN q) (a + n) h3 hBr hT hb hc (by simpa using hcTr) (fun i hi => by simpa using hcr i hi) hl hby hh
            rw [show ((a + n : Nat) : Int) = (a : Int) + 1 + (n : Int) - 1 by omega] at hat
            clear hcr
            go_wp2_with (fail)
            refine (hat _).mono ?_
            rintro e w1 ⟨rfl, hb1⟩
            have HB1 : Hid (Below B w w1) := (below_drewN HB.out _).trans hb1
            clear hb1 hat
            go_wp2
            go_roundw
            case rel => exact ⟨a + n + 1, by omega, by go_num, HB1.out, by rw [HS2.out]; exact searchL_next h3 (by rw [hh]; simp)⟩
            case measure => simp [intOf]; omega
          · have hat := fun q => at_hit (w := wr.drewN q) (a + n) h3 hBr hT hb hc (by simpa using hcTr) (fun i hi => by simpa using hcr i hi) hl hby hh
            rw [show ((a + n : Nat) : Int) = (a : Int) + 1 + (n : Int) - 1 by omega] at hat
            clear hcr
            go_wp2_with (fail)
            refine (hat _).mono ?_
            rintro e w1 ⟨rfl, hb1⟩
            have HB1 : Hid (Below B w w1) := (below_drewN HB.out _).trans hb1
            clear hb1 hat
            go_wp2
            go_ret2
            exact ⟨by rw [HS2.out, searchL_hit h3 han hh]; rfl, HB1.out⟩
    · go_wp2
      go_ret2
      exact ⟨by rw [HS.out, searchL_end (by omega)]; rfl, HB.out⟩

/-- What findURLPassword hands back. -/
def foundE (zs : List Int) (f : Nat) : Ending := .returned (.tuple #[.int .i64 (spanL zs (searchL zs f)).1, .int .i64 (spanL zs (searchL zs f)).2])

theorem find_any {b o c : Nat} {zs : List Int} {w : World} (f : Nat) (hf : f ≤ zs.length) (hb : b < w.heap.size) (hc : zs.length ≤ c)
    (hcell : ∀ i, i < zs.length → w.cell? ⟨b, o + i, none⟩ = some (.int .u8 (gx zs i))) (hl : zs.length < 4194304) (hby : ByteL zs) :
    Calls Try.prog 22 #[.slice (some ⟨b, o, none⟩) zs.length c, .int .i64 f] w fun e w' => e = foundE zs f ∧ Below w.heap.size w w' := by
  have hbel : Below w.heap.size w (w.alloc (.cells #[.slice (some ⟨b, o, none⟩) zs.length c] 22)) := (Below.refl _ _).alloc (Nat.le_refl _) _
  have hsc := scan_any (B := w.heap.size + 1) (T := w.heap.size) (b := b) (o := o) (c := c) (zs := zs) (w := w.alloc (.cells #[.slice (some ⟨b, o, none⟩) zs.length c] 22)) f hf (by simp) (by omega) (by omega) hc
    (by rw [World.cell?_alloc_mark]; rfl) (fun i hi => (hbel.cell (p := ⟨b, o + i, none⟩) hb).trans (hcell i hi)) hl hby
  have HB : Hid _ := hbel
  clear hbel hcell
  go_enter Try.func22, Try.ntmps22
  go_wp2_with (fail)
  refine hsc.mono ?_
  rintro e w1 ⟨rfl, hb1⟩
  have HB1 : Hid _ := hb1
  clear hb1 hsc
  go_wp2
  go_ret2
  exact ⟨rfl, HB.out.trans (HB1.out.mono (by omega))⟩

theorem zzfind_any {b o c : Nat} {zs : List Int} {w : World} (f : Nat) (hf : f ≤ zs.length) (hb : b < w.heap.size) (hc : zs.length ≤ c)
    (hcell : ∀ i, i < zs.length → w.cell? ⟨b, o + i, none⟩ = some (.int .u8 (gx zs i))) (hl : zs.length < 4194304) (hby : ByteL zs) :
    Calls Try.prog 10 #[.slice (some ⟨b, o, none⟩) zs.length c, .int .i64 f] w fun e w' => e = foundE zs f ∧ Below w.heap.size w w' := by
  have hsc := find_any f hf hb hc hcell hl hby
  clear hcell
  go_enter Try.func10, Try.ntmps10
  go_wp2_with (fail)
  refine hsc.mono ?_
  rintro e w1 ⟨rfl, hb1⟩
  unfold foundE
  clear hsc
  go_wp2
  go_ret2
  exact ⟨rfl, hb1⟩

theorem scan_nil (g : Value) (w : World) :
    Calls Try.prog 34 #[.slice none 0 0, .int .i64 0, .string { data := #[58, 47, 47] }, .int .i64 1, g] w fun e w' => e = .returned (.tuple #[.int .i64 (-1), .int .i64 (-1)]) ∧ w' = w := by
  go_enter Try.func34, Try.ntmps34
  go_wp2
  refine wp_loop_rounds 1 ?_
  rw [rounds_succ]
  go_wp2
  go_ret2
  exact ⟨rfl, rfl⟩

theorem zzfind_nil (w : World) :
    Calls Try.prog 10 #[.slice none 0 0, .int .i64 0] w fun e w' => e = foundE [] 0 ∧ Below w.heap.size w w' := by
  go_enter Try.func10, Try.ntmps10
  go_wp2_with (first | (go_at_call 34; refine calls_same (scan_nil _ _) ?_) | go_in)
  go_ret2
  exact ⟨rfl, (Below.refl _ _).alloc (Nat.le_refl _) _⟩
end Go.Proofs.Qxb6613719a
