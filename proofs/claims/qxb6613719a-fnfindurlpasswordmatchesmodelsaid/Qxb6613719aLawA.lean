/- The walk of FnFindURLPasswordShiftsPastSpace. -/
import Derived.Test.Qxb6613719aFind
import Derived.Test.Qxb6613719aShift
import Derived.Laws.CopyOwn
import Derived.WalkSpells
namespace Go.Proofs.Qxb6613719a
open Go.RowKit
set_option linter.unusedVariables false

theorem zzb12_any (a0 a1 : Option Addr) (len0 cap0 len1 cap1 : Nat) (f : Int) (w : World) (h0 : len0 ≤ maxLen) (h1 : len1 ≤ maxLen) :
    Calls Try.prog 12 #[.slice a0 len0 cap0, .slice a1 len1 cap1, .int .i64 f] w fun e w' => e = .returned (.bool (decide (len0 + len1 ≤ 1048576))) ∧ w' = w := by
  unfold maxLen at h0 h1
  go_enter Try.func12, Try.ntmps12
  go_wp2
  all_goals go_ret
  all_goals refine ⟨retB ?_, rfl⟩
  all_goals (simp; omega)

theorem Try.info5 : (Try.prog.info? 5).map (fun i => (i.zero, i.size, i.bytes)) = some (some (.int .u8 0), 1, 1) := by kernel_rfl

/-- A list of bytes as cells. -/
def cellsU (zs : List Int) : List Value := zs.map (Value.int .u8)
theorem cellsU_get {zs : List Int} {j : Nat} {u : Value} (h : (cellsU zs)[j]? = some u) : j < zs.length ∧ u = .int .u8 (gx zs j) := by
  simp only [cellsU, List.getElem?_map, Option.map_eq_some_iff] at h
  obtain ⟨z, hz, rfl⟩ := h
  exact ⟨(List.getElem?_eq_some_iff.1 hz).1, by simp [gx, List.getD, hz]⟩
theorem cellsU_length (zs : List Int) : (cellsU zs).length = zs.length := by simp [cellsU]
theorem cellsU_one (zs : List Int) : ∀ u ∈ cellsU zs, u.oneCell' = true := by
  intro u hu
  simp only [cellsU, List.mem_map] at hu
  obtain ⟨z, _, rfl⟩ := hu
  rfl
theorem cellsU_at {zs : List Int} {i : Nat} (hi : i < zs.length) : (cellsU zs)[i]? = some (.int .u8 (gx zs i)) := by simp [cellsU, gx, List.getD, hi]
theorem owned_cells {w : World} {base g : Nat} {P T : List Int} {n cap : Nat} (h : w.ownsRow base 5 1 (.slice (some ⟨g, 0, none⟩) n cap) n (cellsU P ++ .int .u8 32 :: cellsU T)) :
    ∀ i, i < (P ++ 32 :: T).length → w.cell? ⟨g, 0 + i, none⟩ = some (.int .u8 (gx (P ++ 32 :: T) i)) := by
  intro i hi
  obtain ⟨hl, hoc⟩ := h
  rcases hoc with ⟨hv, -⟩ | ⟨g', cap', cur, hv, hg, hh, hnc, hcp, hcs, htake⟩
  · cases hv
  cases hv
  have e : cellsU P ++ .int .u8 32 :: cellsU T = cellsU (P ++ 32 :: T) := by simp [cellsU]
  rw [e] at htake hl
  have hc : cur[i]? = some (.int .u8 (gx (P ++ 32 :: T) i)) := by
    have h1 : (cellsU (P ++ 32 :: T))[i]? = some (.int .u8 (gx (P ++ 32 :: T) i)) := cellsU_at hi
    rw [← htake, List.getElem?_take] at h1
    split at h1
    · simpa using h1
    · cases h1
  rw [Nat.zero_add]
  simp [World.cell?, hh, hc]

theorem block_cells {w : World} {g : Nat} {T : List Int} (h : w.heap[g]? = some (.cells (cellsU T).toArray 5 (0, 0))) :
    ∀ i, i < T.length → w.cell? ⟨g, 0 + i, none⟩ = some (.int .u8 (gx T i)) := by
  intro i hi
  have h1 : (cellsU T)[i]? = some (.int .u8 (gx T i)) := cellsU_at hi
  rw [Nat.zero_add]
  simp only [World.cell?, h]
  simpa using h1

theorem ByteL_join {p t : List Int} (hp : ByteL p) (ht : ByteL t) : ByteL (p ++ 32 :: t) := by
  intro k hk
  rcases Nat.lt_trichotomy k p.length with h | h | h
  · rw [gx_append_left _ _ _ h]; exact hp k h
  · subst h; rw [J_sp]; omega
  · obtain ⟨j, rfl⟩ : ∃ j, k = p.length + 1 + j := ⟨k - (p.length + 1), by omega⟩
    rw [J_gx]; rw [J_len] at hk; exact ht j (by omega)

theorem splice_all {L cs : List Value} (h : cs.length = L.length) : splice L 0 cs = cs := by simp [splice, h]
theorem sizeInfo5 : (Try.prog.info? 5).map (·.size) = some 1 := by kernel_rfl

theorem walk4_some (a0 : Option Addr) (cap0 : Nat) (x : Addr) (cap1 : Nat) (P T : List Int) (f : Nat) (w : World) (h0 : P.length ≤ 524288) (h1 : T.length ≤ 524288) (hsum : P.length + T.length ≤ 1048576) (hf : f ≤ T.length)
    (hPn : a0 = none → P.length = 0 ∧ cap0 = 0) (hPc : ∀ ad, a0 = some ad → ∀ j, j < P.length → w.cell? (ad.add j) = some (.int .u8 (gx P j))) (hTc : ∀ j, j < T.length → w.cell? (x.add j) = some (.int .u8 (gx T j))) (hPb : ByteL P) (hTb : ByteL T) :
    Calls Try.prog 4 #[.slice a0 P.length cap0, .slice (some x) T.length cap1, .int .i64 f] w fun e w' => e = .returned (.bool true) ∧ Below w.heap.size w w' := by
  have hz := zzb12_any a0 (some x) P.length cap0 T.length cap1 f w (by unfold maxLen; omega) (by unfold maxLen; omega)
  rw [decide_eq_true hsum] at hz
  have hnil := fun (W : World) (a : Option Addr) (n c n' c' : Nat) => run_neq_slice_nil_any (P := Try.prog) W 22 5 a n c n' c' Try.underlying22
  obtain ⟨i0, hi, hz0, hz1, hz2⟩ := info_parts Try.info5
  go_enter Try.func4, Try.ntmps4
  go_wp2_with (fail)
  refine calls_same hz ?_
  clear hz
  go_wp2_with (at_make; refine wpList_make_full _ rfl (.tmp 38) (.tmp 38) 22 rfl w.heap.size 5 i0 (.int .u8 0) 1 Try.underlying22 hi hz0 hz1 .i64 .i64 _ _ T.length rfl rfl rfl rfl (by rw [hz2]; omega) (by unfold maxLen; omega) (Nat.le_refl _) ?_)
  intro w1 hown hgrow
  obtain ⟨hol, hoc⟩ := hown
  rcases hoc with ⟨hv, -⟩ | ⟨g, cap, cur, hv, hg, hh, hnc, hcp, hcs, htake⟩
  · cases hv
  cases hv
  have hcl : cur.size = T.length := by omega
  have hh' : Hid (w1.heap[w.heap.size]? = some (.cells cur.toList.toArray 5 (0, 0))) := by rw [Hid, hh]
  have hb1 : Below w.heap.size w w1 := (Below.refl _ _).grown hgrow (Nat.le_refl _) (by simp)
  have hTc1 : ∀ j v, (cellsU T)[j]? = some v → w1.cell? (x.add j) = some v := fun j v hj => by
    obtain ⟨h1, h2⟩ := cellsU_get hj
    subst h2
    exact cell_later hb1 (hTc j h1)
  have HT : Hid _ := hTc1
  clear hTc1
  clear hgrow htake hh
  go_wp2_with (refine wpList_copy_splice rfl (.tmp 40) (.tmp 41) 22 22 rfl 5 Try.underlying22 sizeInfo5 _ _ _ _ _ _ rfl rfl w.heap.size 0 cur.toList 5 hh'.out (cellsU T) (by rw [cellsU_length]; simp) (fun _ => ⟨rfl, x, rfl, HT.out⟩) (by rw [cellsU_length]; simp; omega) (cellsU_one T) w.heap.size w hb1 (Nat.le_refl _) ?_)
  intro w2 hw2 hb2
  have hw2' : Hid (w2.heap[w.heap.size]? = some (.cells (cellsU T).toArray 5 (0, 0))) := by
    have h := hw2.out
    rwa [splice_all (by rw [cellsU_length]; simp [hcl])] at h
  have hsz2 := lt_of_block hw2'.out
  clear hw2 hh' HT hb1
  obtain ⟨J, hJ⟩ : ∃ J, J = w2.heap.size := ⟨_, rfl⟩
  have HJ : Hid (J = w2.heap.size) := hJ
  clear hJ
  go_wp2_with (at_make; refine wpList_make_own _ rfl (.const (.int .i64 0)) (.tmp 50) 22 rfl (w.heap.size + 1) 5 i0 (.int .u8 0) 1 Try.underlying22 hi hz0 hz1 .i64 .i64 _ (P.length + 1 + T.length) rfl rfl (by omega) (by rw [hz2]; omega) (by unfold maxLen; omega) (by omega) ?_)
  intro w3 hown3 hgrow3
  have hb3 : Below w.heap.size w w3 := hb2.grown hgrow3 (by omega) (by simp)
  have hT3 : w3.heap[w.heap.size]? = some (.cells (cellsU T).toArray 5 (0, 0)) := (hgrow3.block _ hsz2 (by simp)).trans hw2'.out
  have hJ3 : w.heap.size + 1 ≤ w2.heap.size := by omega
  have hz3 : w2.heap.size < w3.heap.size := by
    obtain ⟨-, hoc⟩ := hown3
    rcases hoc with ⟨hv, -⟩ | ⟨g, cap, cur, hv, hg, hh, hnc, hcp, hcs, htake⟩
    · cases hv
    · cases hv; exact lt_of_block hh
  have HT3 : Hid _ := hT3
  have HB3 : Hid _ := hb3
  have HP3 : Hid (∀ ad, a0 = some ad → ∀ j u, (cellsU P)[j]? = some u → w3.cell? (ad.add j) = some u) := fun ad had j u hj => by
    obtain ⟨h1, h2⟩ := cellsU_get hj
    subst h2
    exact cell_later hb3 (hPc ad had j h1)
  have HO3 : Hid _ := hown3
  have HPn : Hid (a0 = none → P.length = 0 ∧ cap0 = 0) := hPn
  clear hgrow3 hw2' hb3 hT3 hown3 hb2 hPn hPc hTc
  go_wp2_with (at_builtin; refine wpList_append_fits_any _ rfl (.tmp 52) (.tmp 53) 22 rfl (w.heap.size + 1) 5 i0 1 Try.underlying22 hi hz1 w2.heap.size 0 (P.length + 1 + T.length) [] rfl HO3.out a0 P.length cap0 (cellsU P) rfl (by simp [cellsU]) HPn.out HP3.out (cellsU_one P) (by omega) ?_)
  intro w4 hown4 hgrow4
  have hT4 : w4.heap[w.heap.size]? = some (.cells (cellsU T).toArray 5 (0, 0)) := (hgrow4.block _ (by omega) (by simp; omega)).trans HT3.out
  have hb4 : Below w.heap.size w w4 := HB3.out.grown hgrow4 (by omega) (fun k hk => by cases hk; omega)
  have hz4 : w2.heap.size < w4.heap.size := Nat.lt_of_lt_of_le hz3 hgrow4.size
  have HT4 : Hid _ := hT4
  have HB4 : Hid _ := hb4
  have HO4 : Hid (w4.ownsRow (w.heap.size + 1) 5 1 (.slice (some ⟨w2.heap.size, 0, none⟩) P.length (P.length + 1 + T.length)) P.length (cellsU P)) := hown4
  clear hgrow4 hT4 hb4 hown4 HT3 HB3 HP3 HO3 HPn hz3
  go_wp2_with (at_builtin; go_must (refine wpList_append_fits _ rfl (.tmp 55) (.tmp 56) 22 rfl (w.heap.size + 1) 5 i0 1 Try.underlying22 hi hz1 w2.heap.size P.length (P.length + 1 + T.length) (cellsU P) rfl (World.ownsRow.alloc HO4.out _) ⟨w4.heap.size, 0, none⟩ 1 1 [.int .u8 32] rfl rfl (cell_one_new _ _ _) (by simp [Value.oneCell']) (by omega) ?_))
  intro w5 hown5 hgrow5
  have hal : w4.heap.size < (w4.alloc (.cells #[.int .u8 32] 5)).heap.size := by simp
  have hT5 : w5.heap[w.heap.size]? = some (.cells (cellsU T).toArray 5 (0, 0)) := (hgrow5.block _ (by omega) (by simp; omega)).trans ((Below.heap_alloc _ _ _ (by omega)).trans HT4.out)
  have hb5 : Below w.heap.size w w5 := (HB4.out.alloc (by omega) _).grown hgrow5 (by omega) (fun k hk => by cases hk; omega)
  have hz5 : w2.heap.size < w5.heap.size := Nat.lt_of_lt_of_le (Nat.lt_of_lt_of_le hz4 (Nat.le_of_lt hal)) hgrow5.size
  have HT5 : Hid (w5.heap[w.heap.size]? = some (.cells (cellsU T).toArray 5 (0, 0))) := hT5
  have HB5 : Hid (Below w.heap.size w w5) := hb5
  have HO5 : Hid (w5.ownsRow (w.heap.size + 1) 5 1 (.slice (some ⟨w2.heap.size, 0, none⟩) (P.length + 1) (P.length + 1 + T.length)) (P.length + 1) (cellsU P ++ [.int .u8 32])) := hown5
  have HC5 : Hid (∀ j u, (cellsU T)[j]? = some u → w5.cell? ((⟨w.heap.size, 0, none⟩ : Addr).add j) = some u) := fun j u hj => by
    rw [Addr.add_lit, Nat.zero_add]
    simp only [World.cell?, hT5]
    simpa using hj
  clear hgrow5 hT5 hb5 hown5 HT4 HB4 HO4 hal hz4
  go_wp2_with (at_builtin; refine wpList_append_fits _ rfl (.tmp 58) (.tmp 59) 22 rfl (w.heap.size + 1) 5 i0 1 Try.underlying22 hi hz1 w2.heap.size (P.length + 1) (P.length + 1 + T.length) (cellsU P ++ [.int .u8 32]) rfl HO5.out ⟨w.heap.size, 0, none⟩ T.length T.length (cellsU T) rfl (by simp [cellsU]) HC5.out (cellsU_one T) (by omega) ?_)
  intro w6 hown6 hgrow6
  have hT6 : w6.heap[w.heap.size]? = some (.cells (cellsU T).toArray 5 (0, 0)) := (hgrow6.block _ (by omega) (by simp; omega)).trans HT5.out
  have hb6 : Below w.heap.size w w6 := HB5.out.grown hgrow6 (by omega) (fun k hk => by cases hk; omega)
  have hz6 : w2.heap.size < w6.heap.size := Nat.lt_of_lt_of_le hz5 hgrow6.size
  have HT6 : Hid (w6.heap[w.heap.size]? = some (.cells (cellsU T).toArray 5 (0, 0))) := hT6
  have HB6 : Hid (Below w.heap.size w w6) := hb6
  have HC6 : Hid (∀ i, i < (P ++ 32 :: T).length → w6.cell? ⟨w2.heap.size, 0 + i, none⟩ = some (.int .u8 (gx (P ++ 32 :: T) i))) := owned_cells hown6
  have HCT : Hid (∀ i, i < T.length → w6.cell? ⟨w.heap.size, 0 + i, none⟩ = some (.int .u8 (gx T i))) := block_cells hT6
  clear hgrow6 hT6 hb6 hown6 HT5 HB5 HO5 HC5 hz5
  have hJl := J_len P T
  have hJb : ByteL (P ++ 32 :: T) := ByteL_join hPb hTb
  have hf1 := zzfind_any (b := w2.heap.size) (o := 0) (c := P.length + 1 + T.length) (zs := P ++ 32 :: T) (w := w6) (f + (P.length + 1)) (by omega) hz6 (by omega) HC6.out (by omega) hJb
  have hcast : ((f + (P.length + 1) : Nat) : Int) = (f : Int) + ((P.length : Int) + 1) := by omega
  rw [hcast, hJl] at hf1
  clear hJl hcast hJb
  have hf2 := fun (W : World) (hW : Below w6.heap.size w6 W) => zzfind_any (b := w.heap.size) (o := 0) (c := T.length) (zs := T) (w := W) f hf (by have := hW.size; omega) (Nat.le_refl _) (fun i hi => (hW.cell (p := ⟨w.heap.size, 0 + i, none⟩) (by show w.heap.size < w6.heap.size; omega)).trans (HCT.out i hi)) (by omega) hTb
  clear hi hz0 hz1 hz2 hol hg hnc hcp hcs hcl HJ
  unfold foundE at hf1 hf2
  rcases shift_law P T f with ⟨e2, e1⟩ | ⟨s, e', e2, e1, g1, g2, g3⟩
  · rw [e1] at hf1
    rw [e2] at hf2
    go_wp2_with (fail)
    refine hf1.mono ?_
    rintro e w7 ⟨rfl, hb7⟩
    have HF := hf2 w7 hb7
    have HB7 : Hid (Below w6.heap.size w6 w7) := hb7
    clear hf1 hf2 hb7 e1 e2
    go_wp2_with (fail)
    refine HF.mono ?_
    rintro e w8 ⟨rfl, hb8⟩
    clear HF
    go_wp2
    go_ret
    exact ⟨rfl, (HB6.out.trans (HB7.out.mono (by omega))).trans (hb8.mono (by have := HB7.out.size; omega))⟩
  · rw [e1] at hf1
    rw [e2] at hf2
    have q1 : (0 : Int) ≤ (s : Int) := by omega
    go_wp2_with (fail)
    refine hf1.mono ?_
    rintro e w7 ⟨rfl, hb7⟩
    have HF := hf2 w7 hb7
    have HB7 : Hid (Below w6.heap.size w6 w7) := hb7
    clear hf1 hf2 hb7 e1 e2
    go_wp2_with (fail)
    refine HF.mono ?_
    rintro e w8 ⟨rfl, hb8⟩
    clear HF
    go_wp2
    go_ret
    exact ⟨rfl, (HB6.out.trans (HB7.out.mono (by omega))).trans (hb8.mono (by have := HB7.out.size; omega))⟩

theorem walk4_nil (a0 : Option Addr) (cap0 : Nat) (P : List Int) (w : World) (h0 : P.length ≤ 524288)
    (hPn : a0 = none → P.length = 0 ∧ cap0 = 0) (hPc : ∀ ad, a0 = some ad → ∀ j, j < P.length → w.cell? (ad.add j) = some (.int .u8 (gx P j))) (hPb : ByteL P) :
    Calls Try.prog 4 #[.slice a0 P.length cap0, .slice none 0 0, .int .i64 0] w fun e w' => e = .returned (.bool true) ∧ Below w.heap.size w w' := by
  have hz := zzb12_any a0 none P.length cap0 0 0 0 w (by unfold maxLen; omega) (by unfold maxLen; omega)
  rw [decide_eq_true (by omega)] at hz
  have hnil := fun (W : World) (a : Option Addr) (n c n' c' : Nat) => run_neq_slice_nil_any (P := Try.prog) W 22 5 a n c n' c' Try.underlying22
  obtain ⟨i0, hi, hz0, hz1, hz2⟩ := info_parts Try.info5
  go_enter Try.func4, Try.ntmps4
  go_wp2_with (fail)
  refine calls_same hz ?_
  clear hz
  go_wp2_with (at_make; refine wpList_make_own _ rfl (.const (.int .i64 0)) (.tmp 50) 22 rfl w.heap.size 5 i0 (.int .u8 0) 1 Try.underlying22 hi hz0 hz1 .i64 .i64 _ (P.length + 1) rfl rfl (by omega) (by rw [hz2]; omega) (by unfold maxLen; omega) (by omega) ?_)
  intro w3 hown3 hgrow3
  have hb3 : Below w.heap.size w w3 := (Below.refl _ _).grown hgrow3 (by omega) (by simp)
  have hz3 : w.heap.size < w3.heap.size := by
    obtain ⟨-, hoc⟩ := hown3
    rcases hoc with ⟨hv, -⟩ | ⟨g, cap, cur, hv, hg, hh, hnc, hcp, hcs, htake⟩
    · cases hv
    · cases hv; exact lt_of_block hh
  have HB3 : Hid (Below w.heap.size w w3) := hb3
  have HP3 : Hid (∀ ad, a0 = some ad → ∀ j u, (cellsU P)[j]? = some u → w3.cell? (ad.add j) = some u) := fun ad had j u hj => by
    obtain ⟨h1, h2⟩ := cellsU_get hj
    subst h2
    exact cell_later hb3 (hPc ad had j h1)
  have HO3 : Hid (w3.ownsRow w.heap.size 5 1 (.slice (some ⟨w.heap.size, 0, none⟩) 0 (P.length + 1)) 0 []) := hown3
  have HPn : Hid (a0 = none → P.length = 0 ∧ cap0 = 0) := hPn
  clear hgrow3 hb3 hown3 hPn hPc
  go_wp2_with (at_builtin; refine wpList_append_fits_any _ rfl (.tmp 52) (.tmp 53) 22 rfl w.heap.size 5 i0 1 Try.underlying22 hi hz1 w.heap.size 0 (P.length + 1) [] rfl HO3.out a0 P.length cap0 (cellsU P) rfl (by simp [cellsU]) HPn.out HP3.out (cellsU_one P) (by omega) ?_)
  intro w4 hown4 hgrow4
  have hb4 : Below w.heap.size w w4 := HB3.out.grown hgrow4 (by omega) (fun k hk => by cases hk; omega)
  have hz4 : w.heap.size < w4.heap.size := Nat.lt_of_lt_of_le hz3 hgrow4.size
  have HB4 : Hid (Below w.heap.size w w4) := hb4
  have HO4 : Hid (w4.ownsRow w.heap.size 5 1 (.slice (some ⟨w.heap.size, 0, none⟩) P.length (P.length + 1)) P.length (cellsU P)) := hown4
  clear hgrow4 hb4 hown4 HB3 HP3 HO3 HPn hz3
  go_wp2_with (at_builtin; refine wpList_append_fits _ rfl (.tmp 55) (.tmp 56) 22 rfl w.heap.size 5 i0 1 Try.underlying22 hi hz1 w.heap.size P.length (P.length + 1) (cellsU P) rfl (World.ownsRow.alloc HO4.out _) ⟨w4.heap.size, 0, none⟩ 1 1 [.int .u8 32] rfl rfl (cell_one_new _ _ _) (by simp [Value.oneCell']) (by omega) ?_)
  intro w5 hown5 hgrow5
  have hal : w4.heap.size < (w4.alloc (.cells #[.int .u8 32] 5)).heap.size := by simp
  have hb5 : Below w.heap.size w w5 := (HB4.out.alloc (by omega) _).grown hgrow5 (by omega) (fun k hk => by cases hk; omega)
  have hz5 : w.heap.size < w5.heap.size := Nat.lt_of_lt_of_le (Nat.lt_of_lt_of_le hz4 (Nat.le_of_lt hal)) hgrow5.size
  have HB5 : Hid (Below w.heap.size w w5) := hb5
  have HO5 : Hid (w5.ownsRow w.heap.size 5 1 (.slice (some ⟨w.heap.size, 0, none⟩) (P.length + 1) (P.length + 1)) (P.length + 1) (cellsU P ++ [.int .u8 32])) := hown5
  clear hgrow5 hb5 hown5 HB4 HO4 hal hz4
  go_wp2_with (at_builtin; refine wpList_append_fits_any _ rfl (.tmp 58) (.tmp 59) 22 rfl w.heap.size 5 i0 1 Try.underlying22 hi hz1 w.heap.size (P.length + 1) (P.length + 1) (cellsU P ++ [.int .u8 32]) rfl HO5.out none 0 0 [] rfl rfl (fun _ => ⟨rfl, rfl⟩) (fun ad h => by cases h) (fun u h => by cases h) (by omega) ?_)
  intro w6 hown6 hgrow6
  have hb6 : Below w.heap.size w w6 := HB5.out.grown hgrow6 (by omega) (fun k hk => by cases hk; omega)
  have hz6 : w.heap.size < w6.heap.size := Nat.lt_of_lt_of_le hz5 hgrow6.size
  have HB6 : Hid (Below w.heap.size w w6) := hb6
  have HC6 : Hid (∀ i, i < (P ++ 32 :: []).length → w6.cell? ⟨w.heap.size, 0 + i, none⟩ = some (.int .u8 (gx (P ++ 32 :: []) i))) := owned_cells (T := []) (by simpa [cellsU] using hown6)
  clear hgrow6 hb6 hown6 HB5 HO5 hz5
  have hJl := J_len P []
  have hJb : ByteL (P ++ 32 :: []) := ByteL_join hPb (fun k hk => by simp at hk)
  have hf1 := zzfind_any (b := w.heap.size) (o := 0) (c := P.length + 1) (zs := P ++ 32 :: []) (w := w6) (0 + (P.length + 1)) (by simp) hz6 (by simp) HC6.out (by simp; omega) hJb
  have hcast : ((0 + (P.length + 1) : Nat) : Int) = (P.length : Int) + 1 := by omega
  have hJl2 : (P ++ 32 :: []).length = P.length + 1 := by simp
  rw [hcast, hJl2] at hf1
  clear hJl hcast hJb hJl2
  have hf2 := fun (W : World) => zzfind_nil W
  clear hi hz0 hz1 hz2
  unfold foundE at hf1 hf2
  rcases shift_law P [] 0 with ⟨e2, e1⟩ | ⟨s, e', e2, e1, g1, g2, g3⟩
  · rw [e1] at hf1
    rw [e2] at hf2
    go_wp2_with (fail)
    refine hf1.mono ?_
    rintro e w7 ⟨rfl, hb7⟩
    have HF := hf2 w7
    have HB7 : Hid (Below w6.heap.size w6 w7) := hb7
    clear hf1 hf2 hb7 e1 e2
    go_wp2_with (fail)
    refine HF.mono ?_
    rintro e w8 ⟨rfl, hb8⟩
    clear HF
    go_wp2
    go_ret
    exact ⟨rfl, (HB6.out.trans (HB7.out.mono (by omega))).trans (hb8.mono (by have := HB7.out.size; omega))⟩
  · simp at g3
end Go.Proofs.Qxb6613719a
