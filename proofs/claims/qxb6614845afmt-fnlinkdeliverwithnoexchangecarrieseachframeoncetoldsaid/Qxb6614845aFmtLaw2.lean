/- The walk of the law: no frames. -/
import Derived.Test.Qxb6614845aFmtParts
namespace Go.Proofs.Qxb6614845aFmt
open Go.RowKit Go.Extern.Stop Go.Stop Go.Extern
set_option linter.unusedVariables false

set_option maxHeartbeats 2000000 in
set_option maxRecDepth 100000 in
/-- No frames at all: nothing is delivered. -/
theorem law_empty (a : Option Addr) (cap : Nat) (w : World) : Calls Tryf.prog 3 #[.slice a 0 cap] w fun e w' => e = .returned (.bool true) ∧ Below w.heap.size w w' := by
  have hby := bytes_empty a cap w
  obtain ⟨j0, hj, hy0, hy1, hy2⟩ := info_parts info24
  go_enter Tryf.func3, Tryf.ntmps3
  go_wp2_with (fail)
  refine hby.mono ?_
  rintro e w0 ⟨rfl, hw⟩
  have hw' := hw.symm
  subst hw'
  clear hw hby
  go_wp2
  refine wp_loop_rounds 1 ?_
  rw [rounds_succ]
  go_wp2_with (at_make; refine wpList_make_full _ rfl (.tmp 34) (.tmp 34) 22 rfl w.heap.size 24 j0 (.slice none 0 0) 1 Tryf.underlying22 hj hy0 hy1 .i64 .i64 _ _ 0 rfl rfl rfl rfl (by rw [hy2]; omega) (by unfold maxLen; omega) (Nat.le_refl _) ?_)
  intro w1 hown hgrow
  have HB1 : Hid (Below w.heap.size w w1) := (Below.refl _ _).grown hgrow (Nat.le_refl _) (by simp)
  clear hown hgrow
  go_wp2
  refine wp_loop_rounds 1 ?_
  rw [rounds_succ]
  have hnl := newlink_any w1.heap.size (w1.alloc (.cells #[.slice none 0 0, .int .i64 0, .nilIface] 29)) (by simp)
  have HBA : Hid (Below w1.heap.size w1 (w1.alloc (.cells #[.slice none 0 0, .int .i64 0, .nilIface] 29))) := (Below.refl _ _).alloc (Nat.le_refl _) _
  have HSA : Hid (w1.heap.size < (w1.alloc (.cells #[.slice none 0 0, .int .i64 0, .nilIface] 29)).heap.size) := by
    show w1.heap.size < _
    simp
  go_wp2_with (fail)
  refine hnl.mono ?_
  rintro e w6 ⟨Lk, Mk, Ck, rfl, hlk, hb6⟩
  have HB6 : Hid (Below w1.heap.size w1 w6) := HBA.out.trans (hb6.mono (Nat.le_of_lt HSA.out))
  clear hb6 hlk hnl
  go_wp2
  refine wp_loop_rounds 1 ?_
  rw [rounds_succ]
  go_wp2
  go_ret
  exact ⟨rfl, HB1.out.trans (HB6.out.mono HB1.out.size)⟩
end Go.Proofs.Qxb6614845aFmt
