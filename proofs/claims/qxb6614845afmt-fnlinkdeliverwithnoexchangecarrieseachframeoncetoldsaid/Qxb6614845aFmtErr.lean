/- The two calls of fmt.Errorf on the road: closed facts on the stop, and what each call hands back: some new error, whatever fmt's text. -/
import Derived.Test.Qxb6614845aFmtRows
import Derived.WalkKit
import Derived.ProofKit
import Derived.WalkSpells
import Derived.WalkSmall
import Derived.Stop.CallBack
import Derived.Stop.IfaceNil
namespace Go.Proofs.Qxb6614845aFmt
open Go.RowKit Go.Extern.Stop Go.Stop Go.Extern
set_option linter.unusedVariables false

theorem calls_same {P : Program} {f : Nat} {args : Array Value} {w : World} {r : Ending} {Q : Ending → World → Prop} (h : Calls P f args w fun e w' => e = r ∧ w' = w) (hq : Q r w) : Calls P f args w Q :=
  h.mono fun _ _ ⟨he, hw⟩ => by subst he; subst hw; exact hq

theorem retB {a b : Bool} (h : a = b) : Ending.returned (.bool a) = .returned (.bool b) := by rw [h]

theorem call18 (args : Array Value) (w : World) : (callFunc 18 args).run Tryf.prog w = ((FmtStop.errorf #[9, 94] #[27] args).run Tryf.prog w).andThen fun v w' => .ok (.value v) w' :=
  run_callFunc_extern Tryf.func18 (by kernel_rfl) (by kernel_rfl) (by kernel_rfl) (by kernel_rfl) args w
theorem guardAny (name : String) (w : World) : (FmtStop.guard name).run Tryf.prog w = .ok () w := by kernel_rfl

/-- The two formats. -/
def fmtShort : ByteArray := ⟨#[109, 101, 115, 115, 97, 103, 101, 32, 101, 110, 100, 115, 32, 97, 102, 116, 101, 114, 32, 37, 100, 32, 111, 102, 32, 116, 104, 101, 32, 37, 100, 32, 111, 99, 116, 101, 116, 115, 32, 111, 102, 32, 105, 116, 115, 32, 115, 101, 114, 118, 105, 99, 101, 32, 105, 110, 102, 111, 114, 109, 97, 116, 105, 111, 110, 32, 111, 99, 116, 101, 116, 32, 97, 110, 100, 32, 114, 111, 117, 116, 105, 110, 103, 32, 108, 97, 98, 101, 108]⟩
def fmtNone : ByteArray := ⟨#[110, 111, 32, 101, 120, 99, 104, 97, 110, 103, 101, 32, 111, 102, 32, 112, 111, 105, 110, 116, 32, 99, 111, 100, 101, 32, 37, 100, 32, 105, 115, 32, 97, 116, 116, 97, 99, 104, 101, 100, 32, 116, 111, 32, 116, 104, 101, 32, 108, 105, 110, 107]⟩

theorem short2 : FmtStop.printed? fmtShort 2 = some [(0, 100, false), (1, 100, false)] := by kernel_rfl
theorem short2r (w : World) : (FmtDoors.printed fmtShort 2).run Tryf.prog w = .ok [(0, 100, false), (1, 100, false)] w := by kernel_rfl
theorem none1 : FmtStop.printed? fmtNone 1 = some [(0, 100, false)] := by kernel_rfl
theorem none1r (w : World) : (FmtDoors.printed fmtNone 1).run Tryf.prog w = .ok [(0, 100, false)] w := by kernel_rfl

def shape3 : List UInt8 := [5, 3, 0, 0, 0, 0, 0, 0, 0, 105, 110, 116]
theorem op3_100w (name : String) (x : Int) (w : World) : (FmtStop.operand name true 100 false (.iface 3 (.int .i64 x))).run Tryf.prog w = .ok (shape3, Go.Extern.Stop.digits 8 (x % 2 ^ 64).toNat) w := by kernel_rfl
theorem op3_100 (name : String) (x : Int) (w : World) : (FmtStop.operand name false 100 false (.iface 3 (.int .i64 x))).run Tryf.prog w = .ok (shape3, Go.Extern.Stop.digits 8 (x % 2 ^ 64).toNat) w := by kernel_rfl

def shape45 : List UInt8 := FmtStop.intCode .u16 :: FmtStop.pack [109, 116, 112, 46, 80, 111, 105, 110, 116, 67, 111, 100, 101]
theorem op45_100w (name : String) (x : Int) (w : World) : (FmtStop.operand name true 100 false (.iface 45 (.int .u16 x))).run Tryf.prog w = .ok (shape45, Go.Extern.Stop.digits 8 (x % 2 ^ 64).toNat) w := by kernel_rfl
theorem op45_100 (name : String) (x : Int) (w : World) : (FmtStop.operand name false 100 false (.iface 45 (.int .u16 x))).run Tryf.prog w = .ok (shape45, Go.Extern.Stop.digits 8 (x % 2 ^ 64).toNat) w := by kernel_rfl

theorem ptr121 (w : World) : (FmtStop.ptrTo "errors.errorString").run Tryf.prog w = .ok 121 w := by kernel_rfl
theorem elem121 (w : World) : (elemOf 121).run Tryf.prog w = .ok 123 w := by kernel_rfl
theorem isError121 (w : World) : (FmtDoors.textMethod 121 "Error").run Tryf.prog w = .ok true w := by kernel_rfl

attribute [local go_sem] call18 guardAny short2 short2r none1 none1r op3_100w op3_100 op45_100w op45_100 ptr121 elem121 isError121

theorem errShort (F : Interp) (b : Nat) (n : Int) (w : World) (hF : F.answers w.tape) (h0 : w.cell? ⟨b, 0, none⟩ = some (.iface 3 (.int .i64 n))) (h1 : w.cell? ⟨b, 1, none⟩ = some (.iface 3 (.int .i64 5))) :
    Calls Tryf.prog 13 #[.string fmtShort, .slice (some ⟨b, 0, none⟩) 2 2] w fun e w' => e = .returned (.iface 121 (.pointer (some ⟨w.heap.size, 0, none⟩))) ∧ Below w.heap.size w w' := by
  have hF' := answers_open hF
  go_enter Tryf.func13, Tryf.ntmps13
  go_wp2
  go_ret
  exact ⟨rfl, ((Below.refl _ _).alloc (Nat.le_refl _) _).drew⟩

theorem errNone (F : Interp) (b : Nat) (n : Int) (w : World) (hF : F.answers w.tape) (h0 : w.cell? ⟨b, 0, none⟩ = some (.iface 45 (.int .u16 n))) :
    Calls Tryf.prog 13 #[.string fmtNone, .slice (some ⟨b, 0, none⟩) 1 1] w fun e w' => e = .returned (.iface 121 (.pointer (some ⟨w.heap.size, 0, none⟩))) ∧ Below w.heap.size w w' := by
  have hF' := answers_open hF
  go_enter Tryf.func13, Tryf.ntmps13
  go_wp2
  go_ret
  exact ⟨rfl, ((Below.refl _ _).alloc (Nat.le_refl _) _).drew⟩
end Go.Proofs.Qxb6614845aFmt
