/- The row, fmt's texts told: lifted. -/
import Derived.Test.Qxb6614845aFmtLaw
import Derived.Test.Qxb6614845aFmtLaw2
import Derived.Deep.Matrix
import Derived.Stop.JoinedAt
import Derived.Stop.JoinedTold
import Derived.Stop.LaidErr
import Derived.LaidLaws
import Derived.Carry
namespace Go.Proofs.Qxb6614845aFmt
open Go.ChangeShapes Go.WideShapes Go.ChangeAt Go.RowKit Go.Kit
open Go.Extern.Stop Go.Stop Go.Extern
set_option linter.unusedVariables false

theorem Tryf.own : ownKnob Tryf.prog.godebug = none := by kernel_rfl
theorem Tryf.laidOut : laidOutB Tryf.prog = true := by kernel_rfl
theorem Tryf.cells24 : Tryf.prog.cellsOf 24 = 1 := by kernel_rfl
theorem Tryf.cells5 : Tryf.prog.cellsOf 5 = 1 := by kernel_rfl

/-- Package-level variables whose memory is not turned read as before. -/
theorem trodVars_below {H : Type} {enc : TypeId × Value → H} {P : Program} (hl : laidOutB P = true) {W W' : World} (hb : Below W.heap.size W W') :
    ∀ {ns : List String} {ds : List (DataW H)} {ps : List MemPlace}, (∀ n ∈ ns, ∀ g t, P.globalNamed n = some g → (P.globals[g]?).map (·.type) = some t → P.readableRec t = true ∧ t < P.types.size) →
      DataW.TrodVars enc P W (fun _ => true) ns ds ps → DataW.TrodVars enc P W' (fun b => decide (b < W.heap.size)) ns ds ps
  | [], [], _, _, h => h
  | _ :: _, [], _, _, h => h.elim
  | [], _ :: _, _, _, h => h.elim
  | n :: ns, d :: ds, _, hn, ⟨g, t, cs, fuel, p, q, h1, h2, h3, h4, hs, e⟩ => by
    subst e
    obtain ⟨hr, hrow⟩ := hn n (List.mem_cons_self ..) g t h1 h2
    have hlt := DataW.trod_lt _ _ _ _ h4
    refine ⟨g, t, cs, fuel, p, q, h1, h2, ?_, DataW.trod_stays (kids_book hl hr) (book_sized hr) (fun h => by cases h) ⟨hrow, book_self t⟩ h4 (fun x hx => hb.same (hlt x hx)) (fun x hx => by simpa using hlt x hx), trodVars_below hl hb (fun m hm => hn m (List.mem_cons_of_mem _ hm)) hs, rfl⟩
    refine var?_below hb h1 ?_ h3
    unfold World.var? at h3
    simp only [h1, Option.bind_some] at h3
    rcases Nat.lt_or_ge g W.heap.size with h | h
    · exact h
    · rw [Array.getElem?_eq_none h] at h3
      cases h3

/-- The listed variables' types can be read, and are the program's. -/
def varFits (P : Program) (n : String) : Bool :=
  match P.globalNamed n with
  | some g => match (P.globals[g]?).map (·.type) with
    | some t => P.readableRec t && decide (t < P.types.size)
    | none => true
  | none => true
theorem Tryf.varsFit : (Rows.fnLinkDeliverWithNoExchangeCarriesEachFrameOnceSpec.vars.all (varFits Tryf.prog)) = true := by kernel_rfl
theorem Tryf.varOk (n : String) (h : n ∈ Rows.fnLinkDeliverWithNoExchangeCarriesEachFrameOnceSpec.vars) (g : Nat) (t : TypeId) (h1 : Tryf.prog.globalNamed n = some g) (h2 : (Tryf.prog.globals[g]?).map (·.type) = some t) :
    Tryf.prog.readableRec t = true ∧ t < Tryf.prog.types.size := by
  have hv := List.all_eq_true.1 Tryf.varsFit n h
  simp only [varFits, h1, h2, Bool.and_eq_true] at hv
  exact ⟨hv.1, of_decide_eq_true hv.2⟩

/-- The block's cells, put. -/
def putCells (cs : Array Value) : Obj → Obj
  | .cells _ t frozen => .cells cs t frozen
  | o => o
/-- A start that fits: the three variables hold what the program's text lays. -/
def laidOver (w : World) : World :=
  { w with heap := ((w.heap.modify 1 (putCells #[.int .u8 28, .int .u8 4])).modify 2 (putCells #[.int .u8 102, .int .u8 2])).modify 3 (putCells #[.int .u8 19, .int .u8 2]) }
theorem laid_met (os : Os) (args : Array Value) : laidMet Tryf.prog Rows.fnLinkDeliverWithNoExchangeCarriesEachFrameOnceRow.laid ((laidOver (World.holding Tryf.prog os ⟨#[], #[], []⟩)).forCall (fun _ _ => 0) ⟨#[], args, []⟩).memory :=
  laidMet_of_run (ps := [.cell 2 0, .cell 2 1, .cell 1 0, .cell 1 1, .cell 3 0, .cell 3 1]) 8 (by kernel_rfl) (by kernel_rfl) (by kernel_rfl)

/-- The walk, at an argument as the row opens it. -/
theorem law_any (F : Interp) {H : Type} {enc : TypeId × Value → H} {fuel : Nat} {v : Value} {x : DataW H × List MemPlace} (W : World) (hF : F.answers W.tape)
    (h : DataW.trod enc Tryf.prog W 0 (fun _ => true) true fuel 22 v.cells.toList = some x) (hv : ∃ a n c, v = .slice a n c) :
    Calls Tryf.prog 3 #[v] W fun e W' => e = .returned (.bool true) ∧ Below W.heap.size W W' := by
  obtain ⟨a0, n0, c0, rfl⟩ := hv
  rcases Go.Deep.open_int_rows Tryf.underlying22 Tryf.underlying24 Tryf.underlying5 Tryf.cells24 Tryf.cells5 h with ⟨hcs, -⟩ | ⟨a, len, cap, A, L, C, Z, hcs, -, hlc, hcm, -, hall⟩
  · simp [Value.cells] at hcs
    obtain ⟨rfl, rfl, rfl⟩ := hcs
    exact law_empty _ _ W
  · simp [Value.cells] at hcs
    obtain ⟨rfl, rfl, rfl⟩ := hcs
    by_cases hz : n0 = 0
    · subst hz
      exact law_empty _ _ W
    · have h0 := (hall 0 (by omega)).1
      obtain ⟨b, off, spot⟩ := a
      have hspot : spot = none := by simpa [Addr.add] using World.cell?_spot h0
      subst hspot
      have hb := World.block_lt_of_cell? _ _ h0
      have hlen : ∀ r, r < n0 → ((Z r).take (L r)).length = L r := fun r hr => by
        obtain ⟨_, h1, _, h2, _⟩ := hall r (by omega)
        rw [List.length_take]
        omega
      refine law_some F b off n0 c0 A (fun r => (Z r).take (L r)) C W hF (by omega) (by omega) hb ?_ ?_ ?_ ?_
      · intro r hr
        obtain ⟨_, h1, h2, _⟩ := hall r (by omega)
        rw [hlen r hr]
        omega
      · intro r hr
        rw [hlen r hr, ← Go.WideShapes.add_plain]
        exact (hall r (by omega)).1
      · intro r hr hA
        obtain ⟨_, h1, _, _, _, h5, _⟩ := hall r (by omega)
        rw [hlen r hr]
        have := h5 hA
        omega
      · intro r hr x hA j hj
        obtain ⟨_, h1, _, h3, _, _, h6⟩ := hall r (by omega)
        rw [hlen r hr] at hj
        have h7 := (h6 x hA).2 j (by omega)
        rw [h7]
        simp only [gx, List.getD, List.getElem?_take, hj, if_true]

set_option maxRecDepth 100000 in
theorem t_lifted (os : Os) (started : os.Started) (H : Type) (enc : TypeId × Value → H) :
    ReturnsInTold none {} Tryf.checked os 3 .any Input.okWide ((OpenSpec.ofChange Rows.fnLinkDeliverWithNoExchangeCarriesEachFrameOnceSpec).preRow enc Tryf.prog Tryf.f3 [] false Rows.fnLinkDeliverWithNoExchangeCarriesEachFrameOnceRow.laid)
      (fun F => ((OpenSpec.ofChange Rows.fnLinkDeliverWithNoExchangeCarriesEachFrameOnceSpec).at F).post enc Tryf.prog Tryf.f3 false true false false) (aloneAtReturn Tryf.prog) nothingAlways := by
  refine returnsInTold_of_row (C := Tryf.checked) (s := OpenSpec.ofChange Rows.fnLinkDeliverWithNoExchangeCarriesEachFrameOnceSpec) (by kernel_rfl) Tryf.own started (by kernel_rfl) Tryf.func3
    (OpenSpec.witness_stopped_at (enc := enc) (C := Tryf.checked) false (laidOver (World.holding Tryf.prog os ⟨#[], #[], []⟩)) #[.slice none 0 0] rfl (by kernel_rfl) (by kernel_rfl) (by kernel_rfl)
      (OpenSpec.preRow_of_B rfl 8 (by kernel_rfl) (by kernel_rfl) (laid_met os _))) ?_
  intro F W base args ds gs before _ hF hval0 hW _ _ _ hL _
  have hval : ∀ (j : Nat) t v, Tryf.f3.params[j]? = some t → args[j]? = some v → Value.okWide Tryf.prog W .any base t v := hval0
  have hW' := hW
  obtain ⟨p, q, hA0, hV, rfl, hfz, hnd⟩ := hW
  have hA : DataW.TrodAll enc Tryf.prog W 0 (fun _ => true) true Tryf.f3.params.toList args.toList ds p := hA0
  rw [Tryf.params3] at hA hval
  obtain ⟨v0, d0, rfl, rfl, h0⟩ := trodAll_one hA
  have hk0 := h0
  obtain ⟨fuel, hk⟩ := hk0
  refine (law_any F.told W hF hk ?_).mono fun e W' ⟨he, hb⟩ => ?_
  · exact okWide_slice Tryf.underlying22 (hval 0 22 v0 rfl rfl)
  subst he
  have hgs : ∃ g1 g2 g3, gs = [g1, g2, g3] := by
    match gs, hV with
    | [g1, g2, g3], _ => exact ⟨g1, g2, g3, rfl⟩
  obtain ⟨g1, g2, g3, rfl⟩ := hgs
  exact ⟨_, rfl, _, _, _, [], p, q, hW', trodAll_mk1 (shut_bool Tryf.underlying4 true), trodAll_mk1 (Below.trod Tryf.laidOut (by kernel_rfl) (of_decide_eq_true (by kernel_rfl)) h0 hb hA.lt), trodVars_below Tryf.laidOut hb Tryf.varOk hV, hb.frame _, fun h => by cases h⟩
end Go.Proofs.Qxb6614845aFmt
