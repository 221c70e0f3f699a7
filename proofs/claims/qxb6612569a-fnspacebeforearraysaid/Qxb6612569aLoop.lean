/- The law's own loop. -/
import Derived.Test.Qxb6612569aElems
namespace Go.Proofs.Qxb6612569a
open Go.RowKit
set_option linter.unusedSimpArgs false

/-- How many spaces stand below k. -/
def cnt (k : Int) : Int := (if 9 < k then 1 else 0) + (if 10 < k then 1 else 0) + (if 13 < k then 1 else 0) + (if 32 < k then 1 else 0)

theorem cnt_bd (k : Int) : 0 ≤ cnt k ∧ cnt k ≤ 4 := by unfold cnt; omega
theorem cnt_yes (k : Int) (h : spaceB k = true) : cnt (k + 1) = cnt k + 1 := by
  simp [spaceB] at h; unfold cnt; omega
theorem cnt_no (k : Int) (h : spaceB k = false) : cnt (k + 1) = cnt k := by
  simp [spaceB] at h; unfold cnt; omega

theorem upto_any (c : Int) (w : World) (h0 : 0 ≤ c) (h1 : c ≤ 255) : Calls Try.prog 10 #[.int .u8 c] w fun e w' => e = .returned (.int .i64 (cnt (c + 1))) ∧ w' = w := by
  go_enter Try.func10, Try.ntmps10
  go_wp2
  all_goals go_ret
  all_goals refine ⟨retI ?_, rfl⟩
  all_goals (unfold cnt; omega)

/-- What lies where, behind the round's two stores and its literal. -/
theorem made (B : Nat) (wr : World) (k : Int) (x y : Value) (hC : wr.heap[B]? = some (.cells #[x] 3 (0, 0))) (hS : wr.heap[B + 1]? = some (.cells #[y] 24 (0, 0))) (W : World)
    (hW : W = ((wr.setCell ⟨B, 0, none⟩ (.int .i64 0)).setCell ⟨B + 1, 0, none⟩ (.slice none 0 0)).alloc (.cells #[.int .u8 k, .int .u8 91, .int .u8 49, .int .u8 93] 5)) :
    W.heap[B]? = some (.cells #[.int .i64 0] 3 (0, 0)) ∧ W.heap[B + 1]? = some (.cells #[.slice none 0 0] 24 (0, 0)) ∧ wr.heap.size < W.heap.size ∧
    W.cell? ⟨wr.heap.size, 0, none⟩ = some (.int .u8 k) ∧ W.cell? ⟨wr.heap.size, 1, none⟩ = some (.int .u8 91) ∧ W.cell? ⟨wr.heap.size, 2, none⟩ = some (.int .u8 49) ∧ W.cell? ⟨wr.heap.size, 3, none⟩ = some (.int .u8 93) ∧ Below B wr W := by
  have hB := lt_of_block hS
  have z1 : (wr.setCell ⟨B, 0, none⟩ (.int .i64 0)).heap.size = wr.heap.size := by simp [World.setCell]
  have z2 : ((wr.setCell ⟨B, 0, none⟩ (.int .i64 0)).setCell ⟨B + 1, 0, none⟩ (.slice none 0 0)).heap.size = wr.heap.size := by simp [World.setCell]
  have hS' : (wr.setCell ⟨B, 0, none⟩ (.int .i64 0)).heap[B + 1]? = some (.cells #[y] 24 (0, 0)) := (Below.heap_setCell _ _ _ _ (by simp)).trans hS
  have hnew : W.heap[wr.heap.size]? = some (.cells #[.int .u8 k, .int .u8 91, .int .u8 49, .int .u8 93] 5 (0, 0)) := by
    subst hW; rw [← z2]; exact (MapKept.heap_alloc _ _).1
  refine ⟨?_, ?_, ?_, ?_, ?_, ?_, ?_, ?_⟩
  · subst hW
    exact ((Below.heap_alloc _ _ _ (by omega)).trans (Below.heap_setCell _ _ _ _ (by simp))).trans (one_setCell hC)
  · subst hW
    exact (Below.heap_alloc _ _ _ (by omega)).trans (one_setCell hS')
  · subst hW; simp [World.setCell]
  · simp [World.cell?, hnew]
  · simp [World.cell?, hnew]
  · simp [World.cell?, hnew]
  · simp [World.cell?, hnew]
  · subst hW
    exact (((Below.refl B wr).setCell (p := ⟨B, 0, none⟩) (Nat.le_refl _) _).setCell (p := ⟨B + 1, 0, none⟩) (Nat.le_succ _) _).alloc (by omega) _

theorem walk (a0 : Int) (w0 : 0 ≤ a0) (w1 : a0 ≤ 255) (w : World) :
    Calls Try.prog 4 #[.int .u8 a0] w fun e w' => e = .returned (.bool true) ∧ Below w.heap.size w w' := by
  obtain ⟨c, rfl⟩ := Int.eq_ofNat_of_zero_le w0
  go_enter Try.func4, Try.ntmps4
  go_wp2
  go_loopw [3, 7] (fun n i wr => ∃ k : Nat, k ≤ c + 1 ∧ i = .int .i64 k ∧ n = .int .i64 (cnt k) ∧ (∃ x, wr.heap[w.heap.size]? = some (.cells #[x] 3 (0, 0))) ∧ (∃ y, wr.heap[w.heap.size + 1]? = some (.cells #[y] 24 (0, 0))) ∧ Below w.heap.size w wr)
    (fun _ i _ => (c + 1) - (intOf i).toNat)
  case atStart =>
    refine ⟨0, Nat.zero_le _, rfl, rfl, ⟨.int .i64 0, ?_⟩, ⟨.slice none 0 0, ?_⟩, ((Below.refl _ _).alloc (Nat.le_refl _) _).alloc (by simp) _⟩
    · exact (Below.heap_alloc _ _ _ (by simp)).trans (MapKept.heap_alloc w _).1
    · have h := (MapKept.heap_alloc (w.alloc (.cells #[.int .i64 0] 3)) (.cells #[.slice none 0 0] 24)).1
      simpa using h
  case round =>
    obtain ⟨k, hk, rfl, rfl, ⟨x, hC⟩, ⟨y, hS⟩, hbel⟩ := hrel
    have hcb := cnt_bd k
    by_cases hlt : k ≤ c
    · by_cases h91 : (k : Int) = 91
      · have e91 : ((k : Int) == 91) = true := by simpa using h91
        have HK : Hid ((k : Int) = 91) := h91
        clear h91
        go_wp2
        go_roundw
        case rel => exact ⟨k + 1, by omega, by go_num, congrArg (Value.int .i64) (by have h := cnt_no k (by rw [HK.out]; decide); rw [← h]; rfl), ⟨x, hC⟩, ⟨y, hS⟩, hbel⟩
        case measure => simp [intOf]; omega
      · have e91 : ((k : Int) == 91) = false := by simpa using h91
        have cC := cell_of_one hC
        have fC := free_of_one hC
        have hS' : (wr.setCell ⟨w.heap.size, 0, none⟩ (.int .i64 0)).heap[w.heap.size + 1]? = some (.cells #[y] 24 (0, 0)) := (Below.heap_setCell _ _ _ _ (by simp)).trans hS
        have cS := cell_of_one hS'
        have fS := free_of_one hS'
        obtain ⟨mC, mS, mz, m0, m1, m2, m3, mB⟩ := made w.heap.size wr k x y hC hS _ rfl
        have hB2 : w.heap.size + 2 ≤ wr.heap.size := lt_of_block hS
        cases hsp : spaceB k
        · have M : Hid _ := mC
          have M2 : Hid _ := mS
          have M3 : Hid _ := mB
          have HB : Hid _ := hbel
          have N : Hid _ := m0
          clear mC mS mB m0 m1 m2 m3 hbel
          go_wp2_with (fail)
          refine calls_same (zzelements_no wr.heap.size k _ _ N.out hsp (by simpa using h91)) ?_
          go_wp2_with (fail)
          refine calls_same (zzspace_any _ _) ?_
          have cC2 := cell_of_one M.out
          go_wp2
          go_roundw
          case rel => exact ⟨k + 1, by omega, by go_num, congrArg (Value.int .i64) (cnt_no k hsp).symm, ⟨_, M.out⟩, ⟨_, M2.out⟩, HB.out.trans M3.out⟩
          case measure => simp [intOf]; omega
        · have M : Hid _ := mC
          have M2 : Hid _ := mS
          have M3 : Hid _ := mB
          have HB : Hid _ := hbel
          have N : Hid _ := m0
          have N1 : Hid _ := m1
          have N2 : Hid _ := m2
          have N3 : Hid _ := m3
          clear mC mS mB m0 m1 m2 m3 hbel
          go_wp2_with (fail)
          refine (zzelements_yes wr.heap.size w.heap.size k _ hB2 mz N.out N1.out N2.out N3.out hsp M.out M2.out).mono ?_
          rintro e w2 ⟨rfl, hC2, ⟨g, cap, hS2, hg⟩, hb2⟩
          have cC2 := cell_of_one hC2
          have cS2 := cell_of_one hS2
          have HC2 : Hid _ := hC2
          have HS2 : Hid _ := hS2
          have HB2 : Hid _ := hb2
          clear hC2 hS2 hb2 cC fC cS fS hS' hC hS
          go_wp2_with (fail)
          refine calls_same (zzspace_any _ _) ?_
          go_wp2
          go_roundw
          case rel => exact ⟨k + 1, by omega, by go_num, congrArg (Value.int .i64) (cnt_yes k hsp).symm, ⟨_, HC2.out⟩, ⟨_, HS2.out⟩, (HB.out.trans M3.out).trans HB2.out⟩
          case measure => simp [intOf]; omega
    · have hkc : (k : Int) = c + 1 := by omega
      have HK : Hid (cnt (k : Int) = cnt ((c : Int) + 1)) := by rw [Hid, hkc]
      have HE : (cnt (k : Int) == cnt ((c : Int) + 1)) = true := by simpa using HK.out
      clear hkc
      go_wp2_with (fail)
      refine calls_same (upto_any _ _ (by omega) (by omega)) ?_
      go_wp2
      go_ret
      exact ⟨retB (by first | rfl | exact HE), hbel⟩
end Go.Proofs.Qxb6612569a
