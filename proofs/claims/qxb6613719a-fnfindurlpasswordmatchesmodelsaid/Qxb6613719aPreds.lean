/- The byte classes: each Go function computes its plain one. -/
import Derived.Test.Qxb6613719aRows
import Derived.Test.Qxb6613719aPlain
import Derived.WalkKit
import Derived.ProofKit
namespace Go.Proofs.Qxb6613719a
open Go.RowKit
set_option linter.unusedSimpArgs false

theorem retB {a b : Bool} (h : a = b) : Ending.returned (.bool a) = .returned (.bool b) := by rw [h]
theorem retI {k : IntKind} {a b : Int} (h : a = b) : Ending.returned (.int k a) = .returned (.int k b) := by rw [h]

/-- A contract that leaves the world as it was, in the form that keeps the caller's name of the world. -/
theorem calls_same {P : Program} {f : Nat} {args : Array Value} {w : World} {r : Ending} {Q : Ending → World → Prop} (h : Calls P f args w fun e w' => e = r ∧ w' = w) (hq : Q r w) : Calls P f args w Q :=
  h.mono fun _ _ ⟨he, hw⟩ => by subst he; subst hw; exact hq

theorem isLetter_any (c : Int) (w : World) : Calls Try.prog 32 #[.int .u8 c] w fun e w' => e = .returned (.bool (letterB c)) ∧ w' = w := by
  go_enter Try.func32, Try.ntmps32
  go_wp2
  all_goals go_ret
  all_goals refine ⟨retB ?_, rfl⟩
  all_goals (rw [Bool.eq_iff_iff]; simp [letterB, upperB, lowB]; omega)

theorem isUpperOrDigit_any (c : Int) (w : World) : Calls Try.prog 49 #[.int .u8 c] w fun e w' => e = .returned (.bool (upperB c || digitB c)) ∧ w' = w := by
  go_enter Try.func49, Try.ntmps49
  go_wp2
  all_goals go_ret
  all_goals refine ⟨retB ?_, rfl⟩
  all_goals (rw [Bool.eq_iff_iff]; simp [digitB, upperB]; omega)

theorem isAlnum_any (c : Int) (w : World) : Calls Try.prog 42 #[.int .u8 c] w fun e w' => e = .returned (.bool (alnumB c)) ∧ w' = w := by
  cases h : (upperB c || digitB c)
  all_goals
    go_enter Try.func42, Try.ntmps42
    go_wp2_with (go_at_call 49; refine calls_same (isUpperOrDigit_any _ _) ?_; rw [h])
    all_goals go_ret
    all_goals refine ⟨retB ?_, rfl⟩
    all_goals (rw [Bool.eq_iff_iff, alnumB, h]; simp [lowB] <;> omega)

theorem isSchemeByte_any (c : Int) (w : World) : Calls Try.prog 36 #[.int .u8 c] w fun e w' => e = .returned (.bool (schemeB c)) ∧ w' = w := by
  cases h : alnumB c
  all_goals
    go_enter Try.func36, Try.ntmps36
    go_wp2_with (go_at_call 42; refine calls_same (isAlnum_any _ _) ?_; rw [h])
    all_goals go_ret
    all_goals refine ⟨retB ?_, rfl⟩
    all_goals (rw [Bool.eq_iff_iff, schemeB, h]; (try simp only [beq_iff_eq, beq_eq_false_iff_ne] at *); simp <;> omega)

theorem isSpace_any (c : Int) (w : World) : Calls Try.prog 45 #[.int .u8 c] w fun e w' => e = .returned (.bool (spaceB c)) ∧ w' = w := by
  go_enter Try.func45, Try.ntmps45
  go_wp2
  all_goals go_ret
  all_goals refine ⟨retB ?_, rfl⟩
  all_goals (rw [Bool.eq_iff_iff]; (try simp only [beq_iff_eq, beq_eq_false_iff_ne] at *); simp [spaceB] <;> omega)

theorem isPass_any (c : Int) (w : World) : Calls Try.prog 38 #[.int .u8 c] w fun e w' => e = .returned (.bool (passB c)) ∧ w' = w := by
  cases h1 : (c == 64) <;> cases h2 : (c == 47) <;> cases h : spaceB c
  all_goals
    have k1 : (c != 64) = !(c == 64) := rfl
    have k2 : (c != 47) = !(c == 47) := rfl
    go_enter Try.func38, Try.ntmps38
    go_wp2_with (go_at_call 45; refine calls_same (isSpace_any _ _) ?_; rw [h])
    all_goals go_ret
    all_goals refine ⟨retB ?_, rfl⟩
    all_goals simp_all [passB]

theorem isUser_any (c : Int) (w : World) : Calls Try.prog 37 #[.int .u8 c] w fun e w' => e = .returned (.bool (userB c)) ∧ w' = w := by
  cases h1 : (c == 58) <;> cases h : passB c
  all_goals
    have k1 : (c != 58) = !(c == 58) := rfl
    go_enter Try.func37, Try.ntmps37
    go_wp2_with (go_at_call 38; refine calls_same (isPass_any _ _) ?_; rw [h])
    all_goals go_ret
    all_goals refine ⟨retB ?_, rfl⟩
    all_goals simp_all [userB]

theorem isStar_any (c : Int) (w : World) : Calls Try.prog 46 #[.int .u8 c] w fun e w' => e = .returned (.bool (starB c)) ∧ w' = w := by
  go_enter Try.func46, Try.ntmps46
  go_wp2
  go_ret
  exact ⟨rfl, rfl⟩

theorem isKind_any (c : Int) (w : World) : Calls Try.prog 55 #[.int .u8 c] w fun e w' => e = .returned (.bool (kindB c)) ∧ w' = w := by
  go_enter Try.func55, Try.ntmps55
  go_wp2
  all_goals go_ret
  all_goals refine ⟨retB ?_, rfl⟩
  all_goals (rw [Bool.eq_iff_iff]; (try simp only [beq_iff_eq, beq_eq_false_iff_ne] at *); simp [kindB, lowB, digitB] <;> omega)

theorem isDigit_any (c : Int) (w : World) : Calls Try.prog 59 #[.int .u8 c] w fun e w' => e = .returned (.bool (digitB c)) ∧ w' = w := by
  go_enter Try.func59, Try.ntmps59
  go_wp2
  all_goals go_ret
  all_goals refine ⟨retB ?_, rfl⟩
  all_goals (rw [Bool.eq_iff_iff]; simp [digitB] <;> omega)

theorem isAlias_any (c : Int) (w : World) : Calls Try.prog 57 #[.int .u8 c] w fun e w' => e = .returned (.bool (aliasB c)) ∧ w' = w := by
  cases h : digitB c
  all_goals
    go_enter Try.func57, Try.ntmps57
    go_wp2_with (go_at_call 59; refine calls_same (isDigit_any _ _) ?_; rw [h])
    all_goals go_ret
    all_goals refine ⟨retB ?_, rfl⟩
    all_goals (rw [Bool.eq_iff_iff, aliasB, h]; simp <;> omega)

theorem toLower_any (c : Int) (w : World) (h0 : 0 ≤ c) (h1 : c ≤ 255) : Calls Try.prog 29 #[.int .u8 c] w fun e w' => e = .returned (.int .u8 (lowerI c)) ∧ w' = w := by
  go_enter Try.func29, Try.ntmps29
  go_wp2
  all_goals go_ret
  all_goals refine ⟨retI ?_, rfl⟩
  all_goals (simp only [lowerI, upperB, Bool.and_eq_true, decide_eq_true_eq]; split <;> omega)
end Go.Proofs.Qxb6613719a
