import Derived.Test.Qxb6609321aRows
import Derived.WalkKit
import Derived.ProofKit
import Derived.Lib.Bytealg
namespace Go.Proofs.Qxb6609321a
open Go.RowKit

/-! The plain functions, and that they are one. -/
def alphaB (c : Int) : Bool := (decide (97 ≤ c) && decide (c ≤ 122)) || (decide (65 ≤ c) && decide (c ≤ 90))
def digitB (c : Int) : Bool := decide (48 ≤ c) && decide (c ≤ 57)
def marks : ByteArray := ⟨#[45, 46, 95, 126, 58, 47, 63, 35, 91, 93, 64, 33, 36, 38, 39, 40, 41, 42, 43, 44, 59, 61]⟩
def markB (c : Int) : Bool := decide (0 ≤ Lib.indexByte marks.data.toList c.toNat.toUInt8)
def uriB (c : Int) : Bool := alphaB c || digitB c || markB c
def barB (c : Int) : Bool := c == 34 || c == 37 || c == 60 || c == 62 || c == 92 || c == 94 || c == 96 || c == 123 || c == 124 || c == 125
def modelB (c : Int) : Bool := !(decide (c < 33) || decide (126 < c)) && !barB c

theorem same_fin : ∀ n : Fin 256, uriB (n.val : Int) = modelB (n.val : Int) := by decide +kernel
theorem same (c : Int) (h0 : 0 ≤ c) (h1 : c ≤ 255) : uriB c = modelB c := by
  obtain ⟨n, rfl⟩ := Int.eq_ofNat_of_zero_le h0
  exact same_fin ⟨n, by omega⟩

theorem retB {a b : Bool} (h : a = b) : Ending.returned (.bool a) = .returned (.bool b) := by rw [h]

theorem alpha_any (c : Int) (w : World) : Calls Try.prog 8 #[.int .u8 c] w fun e w' => e = .returned (.bool (alphaB c)) ∧ w' = w := by
  go_enter Try.func8, Try.ntmps8
  go_wp2
  all_goals go_ret
  all_goals refine ⟨retB ?_, rfl⟩
  all_goals (rw [Bool.eq_iff_iff]; simp [alphaB]; omega)

theorem digit_any (c : Int) (w : World) : Calls Try.prog 9 #[.int .u8 c] w fun e w' => e = .returned (.bool (digitB c)) ∧ w' = w := by
  go_enter Try.func9, Try.ntmps9
  go_wp2
  all_goals go_ret
  all_goals refine ⟨retB ?_, rfl⟩
  all_goals (rw [Bool.eq_iff_iff]; simp [digitB]; omega)

theorem index_inner (s : ByteArray) (c : Int) (w : World) : Calls Try.prog 11 #[.string s, .int .u8 c] w fun e w' => e = .returned (.int .i64 (Lib.indexByte s.data.toList c.toNat.toUInt8)) ∧ w' = w := by
  go_enter Try.func11, Try.ntmps11
  go_wp2
  rw [run_callFunc_extern Try.func12 (by kernel_rfl) (by kernel_rfl) (by kernel_rfl) (e := Extern.BytealgIndexByte.indexByte) (by kernel_rfl), Lib.run_indexByteString]
  simp only [Result.andThen]
  rw [Oper.upon_value]
  go_wp2
  go_ret
  exact ⟨rfl, rfl⟩

theorem index_any (s : ByteArray) (c : Int) (w : World) : Calls Try.prog 10 #[.string s, .int .u8 c] w fun e w' => e = .returned (.int .i64 (Lib.indexByte s.data.toList c.toNat.toUInt8)) ∧ w' = w := by
  go_enter Try.func10, Try.ntmps10
  go_wp2_with (go_at_call 11; refine (index_inner _ _ _).mono ?_; rintro e w' ⟨rfl, rfl⟩)
  go_ret
  exact ⟨rfl, rfl⟩

theorem marks_any (c : Int) (w : World) : Calls Try.prog 10 #[.string { data := #[45, 46, 95, 126, 58, 47, 63, 35, 91, 93, 64, 33, 36, 38, 39, 40, 41, 42, 43, 44, 59, 61] }, .int .u8 c] w fun e w' => (∃ i : Int, e = .returned (.int .i64 i) ∧ (markB c = true → 0 ≤ i) ∧ (markB c = false → i < 0)) ∧ w' = w := by
  refine (index_any _ _ _).mono ?_
  rintro e w' ⟨rfl, rfl⟩
  exact ⟨⟨_, rfl, fun h => of_decide_eq_true h, fun h => Int.not_le.1 (of_decide_eq_false h)⟩, rfl⟩

theorem uri_any (c : Int) (w : World) : Calls Try.prog 7 #[.int .u8 c] w fun e w' => e = .returned (.bool (uriB c)) ∧ w' = w := by
  cases ha : alphaB c <;> cases hd : digitB c <;> cases hm : markB c
  all_goals
    go_enter Try.func7, Try.ntmps7
    go_wp2_with (first | (go_at_call 8; refine (alpha_any _ _).mono ?_; rintro e w' ⟨rfl, rfl⟩) | (go_at_call 9; refine (digit_any _ _).mono ?_; rintro e w' ⟨rfl, rfl⟩) | (go_at_call 10; refine (marks_any _ _).mono ?_; rintro e w' ⟨⟨i, rfl, hi1, hi2⟩, rfl⟩; simp only [hm, forall_const, reduceCtorEq, false_implies] at hi1 hi2))
    go_ret
    exact ⟨retB (by simp [uriB, ha, hd, hm]; try assumption), rfl⟩

theorem model_any (c : Int) (w : World) : Calls Try.prog 6 #[.int .u8 c] w fun e w' => e = .returned (.bool (modelB c)) ∧ w' = w := by
  go_enter Try.func6, Try.ntmps6
  go_wp2
  all_goals go_ret
  all_goals refine ⟨retB ?_, rfl⟩
  all_goals (rw [Bool.eq_iff_iff]; (try simp only [beq_iff_eq, beq_eq_false_iff_ne] at *); simp [modelB, barB]; omega)

theorem zz_any (c : Int) (w : World) : Calls Try.prog 5 #[.int .u8 c] w fun e w' => e = .returned (.bool (uriB c)) ∧ w' = w := by
  go_enter Try.func5, Try.ntmps5
  go_wp2_with (go_at_call 7; refine (uri_any _ _).mono ?_; rintro e w' ⟨rfl, rfl⟩)
  go_ret
  exact ⟨rfl, rfl⟩
end Go.Proofs.Qxb6609321a
