/- The envelope's readers at the four bytes b [ 1 ]: contracts, callees first. -/
import Derived.Test.Qxb6612569aRows
import Derived.WalkKit
import Derived.ProofKit
namespace Go.Proofs.Qxb6612569a
open Go.RowKit
set_option linter.unusedSimpArgs false

def spaceB (c : Int) : Bool := c == 32 || c == 9 || c == 10 || c == 13

theorem retB {a b : Bool} (h : a = b) : Ending.returned (.bool a) = .returned (.bool b) := by rw [h]
theorem retI {k : IntKind} {a b : Int} (h : a = b) : Ending.returned (.int k a) = .returned (.int k b) := by rw [h]

theorem space_any (c : Int) (w : World) : Calls Try.prog 23 #[.int .u8 c] w fun e w' => e = .returned (.bool (spaceB c)) ∧ w' = w := by
  go_enter Try.func23, Try.ntmps23
  go_wp2
  all_goals go_ret
  all_goals refine ⟨retB ?_, rfl⟩
  all_goals (rw [Bool.eq_iff_iff]; (try simp only [beq_iff_eq, beq_eq_false_iff_ne] at *); simp [spaceB] <;> omega)

theorem zzspace_any (c : Int) (w : World) : Calls Try.prog 8 #[.int .u8 c] w fun e w' => e = .returned (.bool (spaceB c)) ∧ w' = w := by
  go_enter Try.func8, Try.ntmps8
  go_wp2_with (go_at_call 23; refine (space_any _ _).mono ?_; rintro e w' ⟨rfl, rfl⟩)
  go_ret
  exact ⟨rfl, rfl⟩

/-- skipSpace at a byte that is no space: it stays. -/
theorem skip_stop (R i : Nat) (x : Int) (w : World) (hi : i < 4) (hx : w.cell? ⟨R, i, none⟩ = some (.int .u8 x)) (hs : spaceB x = false) :
    Calls Try.prog 26 #[.slice (some ⟨R, 0, none⟩) 4 4, .int .i64 (i : Int)] w fun e w' => e = .returned (.int .i64 (i : Int)) ∧ w' = w := by
  go_enter Try.func26, Try.ntmps26
  go_wp2
  refine wp_loop_rounds 1 ?_
  rw [rounds_succ]
  go_wp2_with (go_at_call 23; refine (space_any _ _).mono ?_; rintro e w' ⟨rfl, rfl⟩)
  go_ret
  exact ⟨rfl, rfl⟩

/-- skipSpace at a space with no space behind it: one further. -/
theorem skip_one (R : Nat) (x y : Int) (w : World) (hx : w.cell? ⟨R, 0, none⟩ = some (.int .u8 x)) (hy : w.cell? ⟨R, 1, none⟩ = some (.int .u8 y)) (hs : spaceB x = true) (ht : spaceB y = false) :
    Calls Try.prog 26 #[.slice (some ⟨R, 0, none⟩) 4 4, .int .i64 0] w fun e w' => e = .returned (.int .i64 1) ∧ w' = w := by
  go_enter Try.func26, Try.ntmps26
  go_wp2
  refine wp_loop_rounds 2 ?_
  rw [rounds_succ]
  go_wp2_with (go_at_call 23; refine (space_any _ _).mono ?_; rintro e w' ⟨rfl, rfl⟩)
  rw [rounds_succ]
  go_wp2_with (go_at_call 23; refine (space_any _ _).mono ?_; rintro e w' ⟨rfl, rfl⟩)
  go_ret
  exact ⟨rfl, rfl⟩

/-- scalarEnd at the digit. -/
theorem scalar_two (R : Nat) (w : World) (h2 : w.cell? ⟨R, 2, none⟩ = some (.int .u8 49)) (h3 : w.cell? ⟨R, 3, none⟩ = some (.int .u8 93)) :
    Calls Try.prog 34 #[.slice (some ⟨R, 0, none⟩) 4 4, .int .i64 2] w fun e w' => e = .returned (.int .i64 3) ∧ w' = w := by
  have s2 : spaceB 49 = false := by decide
  have s3 : spaceB 93 = false := by decide
  go_enter Try.func34, Try.ntmps34
  go_wp2
  refine wp_loop_rounds 2 ?_
  rw [rounds_succ]
  go_wp2_with (go_at_call 23; refine (space_any _ _).mono ?_; rintro e w' ⟨rfl, rfl⟩)
  rw [rounds_succ]
  go_wp2_with (go_at_call 23; refine (space_any _ _).mono ?_; rintro e w' ⟨rfl, rfl⟩)
  go_ret
  exact ⟨rfl, rfl⟩

theorem value_two (R : Nat) (w : World) (h2 : w.cell? ⟨R, 2, none⟩ = some (.int .u8 49)) (h3 : w.cell? ⟨R, 3, none⟩ = some (.int .u8 93)) :
    Calls Try.prog 27 #[.slice (some ⟨R, 0, none⟩) 4 4, .int .i64 2] w fun e w' => e = .returned (.int .i64 3) ∧ w' = w := by
  go_enter Try.func27, Try.ntmps27
  go_wp2_with (go_at_call 34; refine (scalar_two R _ h2 h3).mono ?_; rintro e w' ⟨rfl, rfl⟩)
  go_ret
  exact ⟨rfl, rfl⟩

theorem Try.info5 : (Try.prog.info? 5).map (fun i => (i.zero, i.size, i.bytes)) = some (some (.int .u8 0), 1, 1) := by kernel_rfl

/-- The closure, at counts of 0 and nil: it counts one and keeps a copy of the byte. -/
theorem each_once (R B : Nat) (w : World) (hR : B + 2 ≤ R) (hRz : R < w.heap.size) (h2 : w.cell? ⟨R, 2, none⟩ = some (.int .u8 49))
    (hC : w.heap[B]? = some (.cells #[.int .i64 0] 3 (0, 0))) (hS : w.heap[B + 1]? = some (.cells #[.slice none 0 0] 24 (0, 0))) :
    Calls Try.prog 11 #[.slice (some ⟨R, 2, none⟩) 1 2, .pointer (some ⟨B, 0, none⟩), .pointer (some ⟨B + 1, 0, none⟩)] w fun e w' => e = .returned (.bool true) ∧
      w'.heap[B]? = some (.cells #[.int .i64 1] 3 (0, 0)) ∧ (∃ g cap, w'.heap[B + 1]? = some (.cells #[.slice (some ⟨g, 0, none⟩) 1 cap] 24 (0, 0)) ∧ w'.cell? ⟨g, 0, none⟩ = some (.int .u8 49)) ∧
      (∀ k, k < w.heap.size → k ≠ B → k ≠ B + 1 → w'.heap[k]? = w.heap[k]?) ∧ Below B w w' := by
  obtain ⟨i0, hi, hz0, hz1, hz2⟩ := info_parts Try.info5
  have cC := cell_of_one hC
  have fC := free_of_one hC
  have cS := cell_of_one hS
  have fS := free_of_one hS
  have cS1 : (w.setCell ⟨B, 0, none⟩ (.int .i64 1)).cell? ⟨B + 1, 0, none⟩ = some (.slice none 0 0) := by
    rw [World.cell?_of_block (w := w) (Below.heap_setCell _ _ _ _ (by simp))]; exact cS
  have c21 : (w.setCell ⟨B, 0, none⟩ (.int .i64 1)).cell? ⟨R, 2, none⟩ = some (.int .u8 49) := by
    rw [World.cell?_of_block (w := w) (Below.heap_setCell _ _ _ _ (by simp; omega))]; exact h2
  go_enter Try.func11, Try.ntmps11
  go_wp2_with (at_builtin; refine wpList_append_grows _ rfl _ _ 24 rfl 5 i0 (.int .u8 0) 1 1 Try.underlying24 hi hz0 hz1 hz2 rfl (by decide) none 0 0 [] rfl (fun _ => ⟨rfl, rfl⟩) rfl (fun b h => by cases h) ⟨R, 2, none⟩ 1 2 [.int .u8 49] rfl rfl ?c1 ?c2 (by decide) (by decide) (by decide) ?_)
  case c1 =>
    intro j u hj
    match j, hj with
    | 0, hj => simp at hj; subst hj; exact c21
  case c2 => intro u hu; simp at hu; subst hu; rfl
  intro v' w1 hown hgrow
  obtain ⟨hlen, hcase⟩ := hown
  rcases hcase with ⟨-, h0⟩ | ⟨g, cap, cur, rfl, hg, hh, hnc, hcp, hcs, htake⟩
  · cases h0
  have hsz : (w.setCell ⟨B, 0, none⟩ (.int .i64 1)).heap.size = w.heap.size := by simp [World.setCell]
  have hB1 : B + 1 < w.heap.size := by omega
  have hC1 : w1.heap[B]? = some (.cells #[.int .i64 1] 3 (0, 0)) := (hgrow.block B (by omega) (by simp)).trans (one_setCell hC)
  have hS1 : w1.heap[B + 1]? = some (.cells #[.slice none 0 0] 24 (0, 0)) := ((hgrow.block (B + 1) (by omega) (by simp)).trans (Below.heap_setCell _ _ _ _ (by simp))).trans hS
  have hcell : w1.cell? ⟨g, 0, none⟩ = some (.int .u8 49) := by
    have h49 : cur[0]? = some (.int .u8 49) := by
      have e : (cur.toList.take (1 * 1))[0]? = some (Value.int .u8 49) := by rw [htake]; rfl
      simpa using e
    simp [World.cell?, hh, h49]
  have cS2 := cell_of_one hS1
  have fS2 := free_of_one hS1
  have hk : ∀ k, k < w.heap.size → k ≠ B → k ≠ B + 1 → w1.heap[k]? = w.heap[k]? := fun k h1 h2 _ => (hgrow.block k (by omega) (by simp)).trans (Below.heap_setCell _ _ _ _ (by simpa using h2))
  have hbel : Below B w w1 := ((Below.refl B w).setCell (p := ⟨B, 0, none⟩) (Nat.le_refl _) _).grown hgrow (by omega) (by simp)
  clear hgrow h2 c21 cS1 cC fC cS fS hC hS
  go_wp2
  go_ret
  refine ⟨rfl, ?_, ⟨g, cap, one_setCell hS1, ?_⟩, ?_, hbel.setCell (by simp) _⟩
  · exact (Below.heap_setCell _ _ _ _ (by simp)).trans hC1
  · rw [World.cell?_of_block (w := w1) (Below.heap_setCell _ _ _ _ (by simp; omega))]; exact hcell
  · intro k h1 h2 h3
    exact (Below.heap_setCell _ _ _ _ (by simpa using h3)).trans (hk k h1 h2 h3)
end Go.Proofs.Qxb6612569a
