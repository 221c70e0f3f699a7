/- 'deliver' on a link with no exchange. -/
import Derived.Test.Qxb6614845aFmtMsu
namespace Go.Proofs.Qxb6614845aFmt
open Go.RowKit Go.Extern.Stop Go.Stop Go.Extern
set_option linter.unusedVariables false

theorem check45 (d : Int) (W : World) : (Instr.checkKey true 10000 45 (.int .u16 d)).run Tryf.prog W = .ok () W := by kernel_rfl
theorem find45 (d : Int) (W : World) : (Instr.findKey 45 (.int .u16 d) []).run Tryf.prog W = .ok none W := by kernel_rfl
theorem zero52 (W : World) : (zeroValue 52).run Tryf.prog W = .ok (.pointer none) W := by kernel_rfl

theorem look_empty (M : Nat) (d : Int) (W : World) (h : W.heap[M]? = some (.map #[] 0)) : (Instr.lookup 40 (.map (some M)) (.int .u16 d) true).run Tryf.prog W = .ok (.tuple #[.pointer none, .bool false]) W := by
  have hg : (getObj M).run Tryf.prog W = .ok (.map #[] 0) W := MapKept.run_getObj_map h
  simp only [Instr.lookup, Sem.run_bind, run_underlying Tryf.underlying40, Result.andThen, hg, Sem.run_pure]
  simp [check45, find45]

/-- A link with an empty table of exchanges, whose 'carried' records into block R. -/
structure Linked (w : World) (L M C R : Nat) : Prop where
  link : w.heap[L]? = some (.cells #[.nilIface, .map (some M), .func (.func 9) #[] #[.pointer (some ⟨C, 0, none⟩)]] 42 (0, 0))
  tab : w.heap[M]? = some (.map #[] 0)
  box : w.heap[C]? = some (.cells #[.pointer (some ⟨R, 0, none⟩)] 25 (0, 0))
  nl : L ≠ R
  nm : M ≠ R
  nc : C ≠ R

theorem Linked.grown {w w' : World} {L M C R : Nat} (h : Linked w L M C R) (hg : w.grownBy w' (some R)) : Linked w' L M C R :=
  ⟨(hg.block L (lt_of_block h.link) (fun e => h.nl (Option.some.inj e))).trans h.link, (hg.block M (lt_of_block h.tab) (fun e => h.nm (Option.some.inj e))).trans h.tab,
    (hg.block C (lt_of_block h.box) (fun e => h.nc (Option.some.inj e))).trans h.box, h.nl, h.nm, h.nc⟩
theorem Linked.below {w w' : World} {L M C R : Nat} (h : Linked w L M C R) (hg : Below w.heap.size w w') : Linked w' L M C R :=
  ⟨(hg.block L (lt_of_block h.link)).trans h.link, (hg.block M (lt_of_block h.tab)).trans h.tab, (hg.block C (lt_of_block h.box)).trans h.box, h.nl, h.nm, h.nc⟩

theorem three {w : World} {B : Nat} {a0 a1 a2 : Value} {t : TypeId} (h : w.heap[B]? = some (.cells #[a0, a1, a2] t (0, 0))) :
    (w.cell? ⟨B, 0, none⟩ = some a0 ∧ w.cell? ⟨B, 1, none⟩ = some a1 ∧ w.cell? ⟨B, 2, none⟩ = some a2) ∧ w.frozen? ⟨B, 0, none⟩ = false ∧ w.frozen? ⟨B, 1, none⟩ = false ∧ w.frozen? ⟨B, 2, none⟩ = false := by
  simp [World.cell?, World.frozen?, h]

theorem carried_any (C R : Nat) (a : Option Addr) (m c : Nat) (p : Addr) (f0 e0 : Value) (n : Nat) (w : World) (hn : n < 4194304) (hCR : C ≠ R)
    (hC : w.heap[C]? = some (.cells #[.pointer (some ⟨R, 0, none⟩)] 25 (0, 0))) (hR : w.heap[R]? = some (.cells #[f0, .int .i64 n, e0] 29 (0, 0))) :
    Calls Tryf.prog 9 #[.slice a m c, .iface 121 (.pointer (some p)), .pointer (some ⟨C, 0, none⟩)] w fun e w' => e = .returned (.tuple #[]) ∧ w'.heap[R]? = some (.cells #[.slice a m c, .int .i64 ((n : Int) + 1), .iface 121 (.pointer (some p))] 29 (0, 0)) ∧ w.grownBy w' (some R) := by
  have cC := cell_of_one hC
  obtain ⟨⟨r0, r1, r2⟩, f0', f1', f2'⟩ := three hR
  go_enter Tryf.func9, Tryf.ntmps9
  go_wp2
  go_end0
  refine ⟨rfl, ?_, ?_⟩
  · rw [set_block (set_block (set_block hR 0 _) 1 _) 2 _]
    rfl
  · refine ⟨rfl, rfl, rfl, by simp [World.setCell], fun k hk hne => ?_⟩
    have hkR : k ≠ R := fun e => hne (by rw [e])
    exact ((Below.heap_setCell _ _ _ _ hkR).trans (Below.heap_setCell _ _ _ _ hkR)).trans (Below.heap_setCell _ _ _ _ hkR)

/-- From a callee that only makes memory, then one that records: what has turned is the record alone. -/
theorem below_grown {w w1 w2 : World} {R : Nat} (h : Below w.heap.size w w1) (hg : w1.grownBy w2 (some R)) : w.grownBy w2 (some R) :=
  ⟨hg.os.trans h.os, hg.tape.trans h.tape, hg.output.trans h.output, Nat.le_trans h.size hg.size, fun k hk hne => (hg.block k (Nat.lt_of_lt_of_le hk h.size) hne).trans (h.block k hk)⟩

set_option maxHeartbeats 1000000 in
theorem deliver_short (F : Interp) (L M C R : Nat) (a : Option Addr) (m c : Nat) (f0 e0 : Value) (n : Nat) (w : World) (hF : F.answers w.tape) (hm : m < 5) (hn : n < 4194304) (hl : Linked w L M C R)
    (hR : w.heap[R]? = some (.cells #[f0, .int .i64 n, e0] 29 (0, 0))) :
    Calls Tryf.prog 10 #[.pointer (some ⟨L, 0, none⟩), .slice a m c] w fun e w' => e = .returned (.tuple #[]) ∧ (∃ p, w'.heap[R]? = some (.cells #[.slice a m c, .int .i64 ((n : Int) + 1), .iface 121 (.pointer (some p))] 29 (0, 0))) ∧ w.grownBy w' (some R) := by
  go_enter Tryf.func10, Tryf.ntmps10
  go_wp2_with (fail)
  refine (decode_short F a m c w hF hm).mono ?_
  rintro e w1 ⟨p, rfl, hb1⟩
  have hl1 := hl.below hb1
  have hR1 : w1.heap[R]? = some (.cells #[f0, .int .i64 n, e0] 29 (0, 0)) := (hb1.block R (lt_of_block hR)).trans hR
  have hbA : Below w1.heap.size w1 (w1.alloc (.cells #[.int .u8 0, .int .u16 0, .int .u16 0, .int .u8 0, .slice none 0 0] 49)) := (Below.refl _ _).alloc (Nat.le_refl _) _
  have hl2 := hl1.below hbA
  obtain ⟨⟨l0, l1, l2⟩, -⟩ := three hl2.link
  have hca := carried_any C R a m c p f0 e0 n (w1.alloc (.cells #[.int .u8 0, .int .u16 0, .int .u16 0, .int .u8 0, .slice none 0 0] 49)) hn hl.nc hl2.box ((hbA.block R (lt_of_block hR1)).trans hR1)
  have HB : Hid (Below w.heap.size w w1) := hb1
  have HA : Hid _ := hbA
  clear hb1 hbA hl1 hR1 hl2
  unfold zeroMsu
  go_wp2_with (fail)
  refine hca.mono ?_
  rintro e w2 ⟨rfl, hR2, hg2⟩
  clear hca
  go_wp2
  go_end0
  exact ⟨rfl, ⟨p, hR2⟩, below_grown HB.out (below_grown HA.out hg2)⟩

set_option maxHeartbeats 1000000 in
theorem deliver_long (F : Interp) (L M C R : Nat) (b o m c : Nat) (x0 x1 x2 x3 x4 : Int) (f0 e0 : Value) (n : Nat) (w : World) (hF : F.answers w.tape) (hm : 5 ≤ m) (hc : m ≤ c) (hb : b < w.heap.size) (hn : n < 4194304) (hl : Linked w L M C R)
    (hR : w.heap[R]? = some (.cells #[f0, .int .i64 n, e0] 29 (0, 0)))
    (h0 : w.cell? ⟨b, o, none⟩ = some (.int .u8 x0)) (h1 : w.cell? ⟨b, o + 1, none⟩ = some (.int .u8 x1)) (h2 : w.cell? ⟨b, o + 2, none⟩ = some (.int .u8 x2)) (h3 : w.cell? ⟨b, o + 3, none⟩ = some (.int .u8 x3)) (h4 : w.cell? ⟨b, o + 4, none⟩ = some (.int .u8 x4)) :
    Calls Tryf.prog 10 #[.pointer (some ⟨L, 0, none⟩), .slice (some ⟨b, o, none⟩) m c] w fun e w' => e = .returned (.tuple #[]) ∧ (∃ p, w'.heap[R]? = some (.cells #[.slice (some ⟨b, o, none⟩) m c, .int .i64 ((n : Int) + 1), .iface 121 (.pointer (some p))] 29 (0, 0))) ∧ w.grownBy w' (some R) := by
  have hde := decode_long b o m c x0 x1 x2 x3 x4 w hm hc hb h0 h1 h2 h3 h4
  clear h0 h1 h2 h3 h4
  go_enter Tryf.func10, Tryf.ntmps10
  go_wp2_with (fail)
  refine hde.mono ?_
  rintro e w1 ⟨⟨s, d, pp, l, q, n', c', rfl⟩, hb1⟩
  clear hde
  obtain ⟨W2, hW2⟩ : ∃ W2, W2 = w1.alloc (.cells #[.int .u8 s, .int .u16 d, .int .u16 pp, .int .u8 l, .slice q n' c'] 49) := ⟨_, rfl⟩
  have hl1 := hl.below hb1
  have hR1 : w1.heap[R]? = some (.cells #[f0, .int .i64 n, e0] 29 (0, 0)) := (hb1.block R (lt_of_block hR)).trans hR
  have hbA : Below w1.heap.size w1 W2 := by rw [hW2]; exact (Below.refl _ _).alloc (Nat.le_refl _) _
  have hl2 := hl1.below hbA
  have hR2 : W2.heap[R]? = some (.cells #[f0, .int .i64 n, e0] 29 (0, 0)) := (hbA.block R (lt_of_block hR1)).trans hR1
  have hlk : ∀ (x : Int) (k : Nat), (Instr.lookup 40 (.map (some M)) (.int .u16 x) true).run Tryf.prog (W2.drewN k) = .ok (.tuple #[.pointer none, .bool false]) (W2.drewN k) := fun x k => look_empty M x _ (by simpa using hl2.tab)
  rw [hW2] at hlk
  obtain ⟨⟨l0, l1, l2⟩, -⟩ := three hl2.link
  rw [hW2] at l0 l1 l2
  have HB : Hid (Below w.heap.size w W2) := hb1.trans (hbA.mono hb1.size)
  have HL : Hid (Linked W2 L M C R) := hl2
  have HR : Hid _ := hR2
  have HW : Hid _ := hW2
  have hF2 : F.answers W2.tape := by have h : W2.tape = w.tape := HB.out.tape; rw [h]; exact hF
  have HF : Hid (F.answers W2.tape) := hF2
  clear hb1 hbA hl1 hR1 hl2 hR2 hW2 hF2 hl hR
  go_wp2_with (fail)
  go_quiet (fail)
  clear hlk l0 l1 l2
  go_wp2_with (fail)
  have hsz : w1.heap.size + 1 = W2.heap.size := by rw [HW.out]; simp
  have hbB : Below W2.heap.size W2 ((W2.drewN nq).alloc (.cells #[.iface 45 (.int .u16 d)] 20)) := (below_drewN (Below.refl _ _) nq).alloc (Nat.le_refl _) _
  have hen := errNone F W2.heap.size d ((W2.drewN nq).alloc (.cells #[.iface 45 (.int .u16 d)] 20)) HF.out (World.cell?_alloc_mark (W2.drewN nq) #[.iface 45 (.int .u16 d)] 20 (0, 0) 0)
  rw [← hsz, HW.out] at hen
  refine hen.mono ?_
  rintro e w4 ⟨rfl, hb4⟩
  have hb4' : Below W2.heap.size W2 w4 := by
    have h := hbB
    rw [HW.out] at h ⊢
    exact h.trans (hb4.mono h.size)
  have hl4 := HL.out.below hb4'
  have hR4 : w4.heap[R]? = some (.cells #[f0, .int .i64 n, e0] 29 (0, 0)) := (hb4'.block R (lt_of_block HR.out)).trans HR.out
  obtain ⟨⟨l0, l1, l2⟩, -⟩ := three hl4.link
  have HB4 : Hid (Below w.heap.size w w4) := HB.out.trans (hb4'.mono HB.out.size)
  clear hen hbB hb4 hb4' hsz
  have hca := fun p => carried_any C R (some ⟨b, o, none⟩) m c p f0 e0 n w4 hn hl4.nc hl4.box hR4
  clear hl4 hR4
  go_wp2_with (fail)
  refine (hca _).mono ?_
  rintro e w5 ⟨rfl, hR5, hg5⟩
  clear hca
  go_wp2
  go_end0
  exact ⟨rfl, ⟨_, hR5⟩, below_grown HB4.out hg5⟩

theorem zzdeliver_any {L : Nat} {v : Value} {w : World} {Q : World → Prop} (h : Calls Tryf.prog 10 #[.pointer (some ⟨L, 0, none⟩), v] w fun e w' => e = .returned (.tuple #[]) ∧ Q w') :
    Calls Tryf.prog 6 #[.pointer (some ⟨L, 0, none⟩), v] w fun e w' => e = .returned (.tuple #[]) ∧ Q w' := by
  go_enter Tryf.func6, Tryf.ntmps6
  go_wp2_with (fail)
  refine h.mono ?_
  rintro e w' ⟨rfl, hq⟩
  go_wp2
  go_end0
  exact ⟨rfl, hq⟩

/-- The recording link, laid in three new blocks. -/
theorem newlink_any (R : Nat) (w : World) (hR : R < w.heap.size) :
    Calls Tryf.prog 5 #[.pointer (some ⟨R, 0, none⟩)] w fun e w' => ∃ L M C, e = .returned (.pointer (some ⟨L, 0, none⟩)) ∧ Linked w' L M C R ∧ Below w.heap.size w w' := by
  have hmm := @run_makeMap Tryf.prog
  go_enter Tryf.func5, Tryf.ntmps5
  go_wp2
  go_ret
  refine ⟨w.heap.size + 1 + 1, w.heap.size + 1, w.heap.size, rfl, ⟨?_, ?_, ?_, by omega, by omega, by omega⟩, (((Below.refl _ _).alloc (Nat.le_refl _) _).alloc (by simp) _).alloc (by simp; omega) _⟩
  · have h := (MapKept.heap_alloc ((w.alloc (.cells #[.pointer (some ⟨R, 0, none⟩)] 25)).alloc (.map #[] 0)) (.cells #[.nilIface, .map (some (w.heap.size + 1)), .func (.func 9) #[] #[.pointer (some ⟨w.heap.size, 0, none⟩)]] 42)).1
    simpa using h
  · refine (Below.heap_alloc _ _ _ (by simp)).trans ?_
    have h := (MapKept.heap_alloc (w.alloc (.cells #[.pointer (some ⟨R, 0, none⟩)] 25)) (.map #[] 0)).1
    simpa using h
  · exact (Below.heap_alloc _ _ _ (by simp; omega)).trans ((Below.heap_alloc _ _ _ (by simp)).trans (MapKept.heap_alloc w _).1)
end Go.Proofs.Qxb6614845aFmt
