/- The walk of FnFindURLPasswordMatchesModel. -/
import Derived.Test.Qxb6613719aModelD
import Derived.Test.Qxb6613719aLawA
namespace Go.Proofs.Qxb6613719a
open Go.RowKit
set_option linter.unusedVariables false

set_option maxRecDepth 100000 in
theorem mModel_nil (w : World) :
    Calls Try.prog 11 #[.slice none 0 0, .int .i64 0] w fun e w' => e = foundE [] 0 ∧ w' = w := by
  go_enter Try.func11, Try.ntmps11
  go_wp2
  refine wp_loop_rounds 1 ?_
  rw [rounds_succ]
  go_wp2
  go_ret2
  exact ⟨rfl, rfl⟩

theorem zzb9_any (a0 : Option Addr) (len0 cap0 : Nat) (f : Int) (w : World) (h0 : len0 ≤ maxLen) :
    Calls Try.prog 9 #[.slice a0 len0 cap0, .int .i64 f] w fun e w' => e = .returned (.bool (decide (len0 ≤ 1048576))) ∧ w' = w := by
  unfold maxLen at h0
  go_enter Try.func9, Try.ntmps9
  go_wp2
  all_goals go_ret
  all_goals refine ⟨retB ?_, rfl⟩
  all_goals (simp; try omega)

theorem walk3_off1 (a0 : Option Addr) (cap0 n0 : Nat) (f : Int) (w : World) (h0 : n0 ≤ maxLen) (hs : ¬ n0 ≤ 1048576) :
    Calls Try.prog 3 #[.slice a0 n0 cap0, .int .i64 f] w fun e w' => e = .returned (.bool true) ∧ Below w.heap.size w w' := by
  have hz := zzb9_any a0 n0 cap0 f w h0
  rw [decide_eq_false hs] at hz
  go_enter Try.func3, Try.ntmps3
  go_wp2_with (fail)
  refine calls_same hz ?_
  go_wp2
  go_ret
  exact ⟨rfl, Below.refl _ _⟩

theorem walk3_off2 (a0 : Option Addr) (cap0 n0 : Nat) (f : Int) (w : World) (hs : n0 ≤ 1048576) (hh : ¬ (0 ≤ f ∧ f ≤ n0)) :
    Calls Try.prog 3 #[.slice a0 n0 cap0, .int .i64 f] w fun e w' => e = .returned (.bool true) ∧ Below w.heap.size w w' := by
  have hz := zzb9_any a0 n0 cap0 f w (by unfold maxLen; omega)
  rw [decide_eq_true hs] at hz
  by_cases hf : f < 0
  · go_enter Try.func3, Try.ntmps3
    go_wp2_with (fail)
    refine calls_same hz ?_
    go_wp2
    go_ret
    exact ⟨rfl, Below.refl _ _⟩
  · have hf' : (n0 : Int) < f := by omega
    go_enter Try.func3, Try.ntmps3
    go_wp2_with (fail)
    refine calls_same hz ?_
    go_wp2
    go_ret
    exact ⟨rfl, Below.refl _ _⟩

theorem walk3_nil (w : World) :
    Calls Try.prog 3 #[.slice none 0 0, .int .i64 0] w fun e w' => e = .returned (.bool true) ∧ Below w.heap.size w w' := by
  have hz := zzb9_any none 0 0 0 w (by unfold maxLen; omega)
  rw [decide_eq_true (by omega)] at hz
  have hnil := fun (W : World) (a : Option Addr) (n c n' c' : Nat) => run_neq_slice_nil_any (P := Try.prog) W 22 5 a n c n' c' Try.underlying22
  have hf1 := zzfind_nil w
  unfold foundE at hf1
  go_enter Try.func3, Try.ntmps3
  go_wp2_with (fail)
  refine calls_same hz ?_
  go_wp2_with (fail)
  refine hf1.mono ?_
  rintro e w1 ⟨rfl, hb1⟩
  have hf2 := mModel_nil w1
  unfold foundE at hf2
  clear hf1 hz
  go_wp2_with (fail)
  refine calls_same hf2 ?_
  clear hf2
  go_wp2
  go_ret
  exact ⟨rfl, hb1⟩

theorem walk3_some (x : Addr) (cap0 : Nat) (T : List Int) (f : Nat) (w : World) (h0 : T.length ≤ 1048576) (hf : f ≤ T.length)
    (hTc : ∀ j, j < T.length → w.cell? (x.add j) = some (.int .u8 (gx T j))) (hTb : ByteL T) :
    Calls Try.prog 3 #[.slice (some x) T.length cap0, .int .i64 f] w fun e w' => e = .returned (.bool true) ∧ Below w.heap.size w w' := by
  have hz := zzb9_any (some x) T.length cap0 f w (by unfold maxLen; omega)
  rw [decide_eq_true h0] at hz
  have hnil := fun (W : World) (a : Option Addr) (n c n' c' : Nat) => run_neq_slice_nil_any (P := Try.prog) W 22 5 a n c n' c' Try.underlying22
  obtain ⟨i0, hi, hz0, hz1, hz2⟩ := info_parts Try.info5
  go_enter Try.func3, Try.ntmps3
  go_wp2_with (fail)
  refine calls_same hz ?_
  clear hz
  go_wp2_with (at_make; refine wpList_make_full _ rfl (.tmp 28) (.tmp 28) 22 rfl w.heap.size 5 i0 (.int .u8 0) 1 Try.underlying22 hi hz0 hz1 .i64 .i64 _ _ T.length rfl rfl rfl rfl (by rw [hz2]; omega) (by unfold maxLen; omega) (Nat.le_refl _) ?_)
  intro w1 hown hgrow
  obtain ⟨hol, hoc⟩ := hown
  rcases hoc with ⟨hv, -⟩ | ⟨g, cap, cur, hv, hg, hh, hnc, hcp, hcs, htake⟩
  · cases hv
  cases hv
  have hcl : cur.size = T.length := by omega
  have hh' : Hid (w1.heap[w.heap.size]? = some (.cells cur.toList.toArray 5 (0, 0))) := by rw [Hid, hh]
  have hb1 : Below w.heap.size w w1 := (Below.refl _ _).grown hgrow (Nat.le_refl _) (by simp)
  have hTc1 : ∀ j v, (cellsU T)[j]? = some v → w1.cell? (x.add j) = some v := fun j v hj => by
    obtain ⟨h1, h2⟩ := cellsU_get hj
    subst h2
    exact cell_later hb1 (hTc j h1)
  have HT : Hid _ := hTc1
  clear hTc1
  clear hgrow htake hh
  go_wp2_with (refine wpList_copy_splice rfl (.tmp 30) (.tmp 31) 22 22 rfl 5 Try.underlying22 sizeInfo5 _ _ _ _ _ _ rfl rfl w.heap.size 0 cur.toList 5 hh'.out (cellsU T) (by rw [cellsU_length]; simp) (fun _ => ⟨rfl, x, rfl, HT.out⟩) (by rw [cellsU_length]; simp; omega) (cellsU_one T) w.heap.size w hb1 (Nat.le_refl _) ?_)
  intro w2 hw2 hb2
  have hw2' : Hid (w2.heap[w.heap.size]? = some (.cells (cellsU T).toArray 5 (0, 0))) := by
    have h := hw2.out
    rwa [splice_all (by rw [cellsU_length]; simp [hcl])] at h
  have hsz2 := lt_of_block hw2'.out
  have HB2 : Hid (Below w.heap.size w w2) := hb2
  have HC : Hid (∀ i, i < T.length → w2.cell? ⟨w.heap.size, 0 + i, none⟩ = some (.int .u8 (gx T i))) := block_cells hw2'.out
  clear hw2 hh' HT hb1 hw2' hb2 hol hg hnc hcp hcs hcl hi hz0 hz1 hz2 hTc
  have hf1 := zzfind_any (b := w.heap.size) (o := 0) (c := T.length) (zs := T) (w := w2) f hf hsz2 (Nat.le_refl _) HC.out (by omega) hTb
  have hf2 := fun (W : World) (hW : Below w2.heap.size w2 W) => mModel_any (B := w2.heap.size) (b := w.heap.size) (o := 0) (c := T.length) (zs := T) (w := W) f hf hsz2 (Nat.le_refl _) (fun i hi => (hW.cell (p := ⟨w.heap.size, 0 + i, none⟩) hsz2).trans (HC.out i hi)) (by omega) hTb
  unfold foundE at hf1 hf2
  obtain ⟨s, e, hse⟩ : ∃ s e, spanL T (searchL T f) = (s, e) := ⟨_, _, rfl⟩
  rw [hse] at hf1 hf2
  have q1 : (s == s) = true := by simp
  have q2 : (e == e) = true := by simp
  go_wp2_with (fail)
  refine hf1.mono ?_
  rintro e1 w3 ⟨rfl, hb3⟩
  have HF := hf2 w3 hb3
  have HB3 : Hid (Below w2.heap.size w2 w3) := hb3
  clear hf1 hf2 hb3 hse
  go_wp2_with (fail)
  refine HF.mono ?_
  rintro e2 w4 ⟨rfl, hb4⟩
  clear HF
  go_wp2
  go_ret
  exact ⟨rfl, (HB2.out.trans (HB3.out.mono (by omega))).trans (hb4.mono (by omega))⟩
end Go.Proofs.Qxb6613719a
