/- 'elements' at the four bytes b [ 1 ]. -/
import Derived.Test.Qxb6612569aText
namespace Go.Proofs.Qxb6612569a
open Go.RowKit

/-- A contract that leaves the world as it was, in the form that keeps the caller's name of the world. -/
theorem calls_same {P : Program} {f : Nat} {args : Array Value} {w : World} {r : Ending} {Q : Ending → World → Prop} (h : Calls P f args w fun e w' => e = r ∧ w' = w) (hq : Q r w) : Calls P f args w Q :=
  h.mono fun _ _ ⟨he, hw⟩ => by subst he; subst hw; exact hq

/-- b is no space and no bracket: no array; nothing is called. -/
theorem elements_no (R : Nat) (x : Int) (f : Value) (w : World) (hx : w.cell? ⟨R, 0, none⟩ = some (.int .u8 x)) (hs : spaceB x = false) (hb : (x != 91) = true) :
    Calls Try.prog 24 #[.slice (some ⟨R, 0, none⟩) 4 4, f] w fun e w' => e = .returned (.bool false) ∧ w' = w := by
  go_enter Try.func24, Try.ntmps24
  go_wp2_with (go_at_call 26; refine (skip_stop R 0 x _ (by decide) hx hs).mono ?_; rintro e w' ⟨rfl, rfl⟩)
  go_ret
  exact ⟨rfl, rfl⟩

theorem skip_two (R : Nat) (w : World) (hx : w.cell? ⟨R, 2, none⟩ = some (.int .u8 49)) :
    Calls Try.prog 26 #[.slice (some ⟨R, 0, none⟩) 4 4, .int .i64 2] w fun e w' => e = .returned (.int .i64 2) ∧ w' = w := skip_stop R 2 49 w (by decide) hx (by decide)
theorem skip_three (R : Nat) (w : World) (hx : w.cell? ⟨R, 3, none⟩ = some (.int .u8 93)) :
    Calls Try.prog 26 #[.slice (some ⟨R, 0, none⟩) 4 4, .int .i64 3] w fun e w' => e = .returned (.int .i64 3) ∧ w' = w := skip_stop R 3 93 w (by decide) hx (by decide)
theorem skip_space (R : Nat) (x : Int) (w : World) (hx : w.cell? ⟨R, 0, none⟩ = some (.int .u8 x)) (hy : w.cell? ⟨R, 1, none⟩ = some (.int .u8 91)) (hs : spaceB x = true) :
    Calls Try.prog 26 #[.slice (some ⟨R, 0, none⟩) 4 4, .int .i64 0] w fun e w' => e = .returned (.int .i64 1) ∧ w' = w := skip_one R x 91 w hx hy hs (by decide)

/-- b is a space: one element, handed over once. -/
theorem elements_yes (R B : Nat) (x : Int) (w : World) (hR : B + 2 ≤ R) (hRz : R < w.heap.size) (hx : w.cell? ⟨R, 0, none⟩ = some (.int .u8 x)) (h1 : w.cell? ⟨R, 1, none⟩ = some (.int .u8 91)) (h2 : w.cell? ⟨R, 2, none⟩ = some (.int .u8 49)) (h3 : w.cell? ⟨R, 3, none⟩ = some (.int .u8 93)) (hs : spaceB x = true)
    (hC : w.heap[B]? = some (.cells #[.int .i64 0] 3 (0, 0))) (hS : w.heap[B + 1]? = some (.cells #[.slice none 0 0] 24 (0, 0))) :
    Calls Try.prog 24 #[.slice (some ⟨R, 0, none⟩) 4 4, .func (.func 11) #[] #[.pointer (some ⟨B, 0, none⟩), .pointer (some ⟨B + 1, 0, none⟩)]] w fun e w' => e = .returned (.bool true) ∧
      w'.heap[B]? = some (.cells #[.int .i64 1] 3 (0, 0)) ∧ (∃ g cap, w'.heap[B + 1]? = some (.cells #[.slice (some ⟨g, 0, none⟩) 1 cap] 24 (0, 0)) ∧ w'.cell? ⟨g, 0, none⟩ = some (.int .u8 49)) ∧ Below B w w' := by
  go_enter Try.func24, Try.ntmps24
  go_wp2_with (fail)
  refine calls_same (skip_space R x _ hx h1 hs) ?_
  go_wp2_with (fail)
  refine calls_same (skip_two R _ h2) ?_
  go_wp2_with (fail)
  refine wp_loop_rounds 2 ?_
  rw [rounds_succ]
  go_wp2_with (fail)
  refine calls_same (value_two R _ h2 h3) ?_
  go_wp2_with (fail)
  refine (each_once R B _ hR hRz h2 hC hS).mono ?_
  rintro e w1 ⟨rfl, hC1, hS1, hk, hbel⟩
  have h31 := (World.cell?_of_block (w := w) (a := ⟨R, 3, none⟩) (hk R hRz (by omega) (by omega))).trans h3
  clear hk hC hS hx h1 h2 h3
  go_wp2_with (fail)
  refine calls_same (skip_three R _ h31) ?_
  go_wp2_with (fail)
  rw [rounds_succ]
  go_wp2
  go_ret
  exact ⟨rfl, hC1, hS1, hbel⟩

theorem zzelements_no (R : Nat) (x : Int) (f : Value) (w : World) (hx : w.cell? ⟨R, 0, none⟩ = some (.int .u8 x)) (hs : spaceB x = false) (hb : (x != 91) = true) :
    Calls Try.prog 12 #[.slice (some ⟨R, 0, none⟩) 4 4, f] w fun e w' => e = .returned (.bool false) ∧ w' = w := by
  go_enter Try.func12, Try.ntmps12
  go_wp2_with (go_at_call 24; refine (elements_no R x _ _ hx hs hb).mono ?_; rintro e w' ⟨rfl, rfl⟩)
  go_ret
  exact ⟨rfl, rfl⟩

theorem zzelements_yes (R B : Nat) (x : Int) (w : World) (hR : B + 2 ≤ R) (hRz : R < w.heap.size) (hx : w.cell? ⟨R, 0, none⟩ = some (.int .u8 x)) (h1 : w.cell? ⟨R, 1, none⟩ = some (.int .u8 91)) (h2 : w.cell? ⟨R, 2, none⟩ = some (.int .u8 49)) (h3 : w.cell? ⟨R, 3, none⟩ = some (.int .u8 93)) (hs : spaceB x = true)
    (hC : w.heap[B]? = some (.cells #[.int .i64 0] 3 (0, 0))) (hS : w.heap[B + 1]? = some (.cells #[.slice none 0 0] 24 (0, 0))) :
    Calls Try.prog 12 #[.slice (some ⟨R, 0, none⟩) 4 4, .func (.func 11) #[] #[.pointer (some ⟨B, 0, none⟩), .pointer (some ⟨B + 1, 0, none⟩)]] w fun e w' => e = .returned (.bool true) ∧
      w'.heap[B]? = some (.cells #[.int .i64 1] 3 (0, 0)) ∧ (∃ g cap, w'.heap[B + 1]? = some (.cells #[.slice (some ⟨g, 0, none⟩) 1 cap] 24 (0, 0)) ∧ w'.cell? ⟨g, 0, none⟩ = some (.int .u8 49)) ∧ Below B w w' := by
  go_enter Try.func12, Try.ntmps12
  go_wp2_with (go_at_call 24; refine (elements_yes R B x _ hR hRz hx h1 h2 h3 hs hC hS).mono ?_; rintro e w' ⟨rfl, hC1, hS1, hbel⟩)
  go_ret
  exact ⟨rfl, by assumption, by assumption, by assumption⟩
end Go.Proofs.Qxb6612569a
