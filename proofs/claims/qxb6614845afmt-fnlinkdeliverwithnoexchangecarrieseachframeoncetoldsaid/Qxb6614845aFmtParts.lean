/- What the law's own loops carry along: the copies of the frames. -/
import Derived.Test.Qxb6614845aFmtSame
import Derived.Laws.CopyOwn
namespace Go.Proofs.Qxb6614845aFmt
open Go.RowKit Go.Extern.Stop Go.Stop Go.Extern
set_option linter.unusedVariables false

def cellsU (zs : List Int) : List Value := zs.map (Value.int .u8)
theorem cellsU_get {zs : List Int} {j : Nat} {u : Value} (h : (cellsU zs)[j]? = some u) : j < zs.length ∧ u = .int .u8 (gx zs j) := by
  simp only [cellsU, List.getElem?_map, Option.map_eq_some_iff] at h
  obtain ⟨z, hz, rfl⟩ := h
  exact ⟨(List.getElem?_eq_some_iff.1 hz).1, by simp [gx, List.getD, hz]⟩
theorem cellsU_length (zs : List Int) : (cellsU zs).length = zs.length := by simp [cellsU]
theorem cellsU_one (zs : List Int) : ∀ u ∈ cellsU zs, u.oneCell' = true := by
  intro u hu
  simp only [cellsU, List.mem_map] at hu
  obtain ⟨z, _, rfl⟩ := hu
  rfl
theorem cellsU_at {zs : List Int} {i : Nat} (hi : i < zs.length) : (cellsU zs)[i]? = some (.int .u8 (gx zs i)) := by simp [cellsU, gx, List.getD, hi]
theorem block_cells {w : World} {g : Nat} {T : List Int} (h : w.heap[g]? = some (.cells (cellsU T).toArray 5 (0, 0))) :
    ∀ i, i < T.length → w.cell? ⟨g, i, none⟩ = some (.int .u8 (gx T i)) := by
  intro i hi
  have h1 : (cellsU T)[i]? = some (.int .u8 (gx T i)) := cellsU_at hi
  simp only [World.cell?, h]
  simpa using h1
theorem splice_all {L cs : List Value} (h : cs.length = L.length) : splice L 0 cs = cs := by simp [splice, h]
theorem sizeInfo5 : (Tryf.prog.info? 5).map (·.size) = some 1 := by kernel_rfl
theorem info5 : (Tryf.prog.info? 5).map (fun i => (i.zero, i.size, i.bytes)) = some (some (.int .u8 0), 1, 1) := by kernel_rfl
theorem info24 : (Tryf.prog.info? 24).map (fun i => (i.zero, i.size, i.bytes)) = some (some (.slice none 0 0), 1, 24) := by kernel_rfl

/-- v is a copy of the frame (Ao, T), in a block of its own behind block G. -/
def Copied (G : Nat) (w : World) (Ao : Option Addr) (T : List Int) (v : Value) : Prop :=
  (Ao = none ∧ T = [] ∧ v = .slice none 0 0) ∨ ∃ g, Ao ≠ none ∧ G < g ∧ v = .slice (some ⟨g, 0, none⟩) T.length T.length ∧ w.heap[g]? = some (.cells (cellsU T).toArray 5 (0, 0))

theorem Copied.keep {G : Nat} {w w' : World} {Ao : Option Addr} {T : List Int} {v : Value} (h : Copied G w Ao T v) (hk : ∀ k, k < w.heap.size → G < k → w'.heap[k]? = w.heap[k]?) : Copied G w' Ao T v := by
  rcases h with h | ⟨g, h1, h2, h3, h4⟩
  · exact .inl h
  · exact .inr ⟨g, h1, h2, h3, (hk g (lt_of_block h4) h2).trans h4⟩

/-- The row of copies: those before k are laid, the rest are nil. -/
def Rowed (B N k : Nat) (A : Nat → Option Addr) (T : Nat → List Int) (wr : World) : Prop :=
  ∃ cs : List Value, cs.length = N ∧ wr.heap[B]? = some (.cells cs.toArray 24 (0, 0)) ∧ (∀ t, t < k → Copied B wr (A t) (T t) (cs.getD t .nilIface)) ∧ ∀ t, k ≤ t → t < N → cs.getD t .nilIface = .slice none 0 0

theorem row_cell {B N : Nat} {cs : List Value} {w : World} (hl : cs.length = N) (h : w.heap[B]? = some (.cells cs.toArray 24 (0, 0))) (k : Nat) (hk : k < N) : w.cell? ⟨B, k, none⟩ = some (cs.getD k .nilIface) ∧ w.frozen? ⟨B, k, none⟩ = false := by
  have hk' : k < cs.length := by omega
  constructor
  · simp only [World.cell?, h]
    simp [List.getD, List.getElem?_eq_getElem hk']
  · simp [World.frozen?, h]

theorem Rowed.start {B N : Nat} {A : Nat → Option Addr} {T : Nat → List Int} {w : World} (h : w.ownsRow B 24 1 (.slice (some ⟨B, 0, none⟩) N N) N (madeCells #[.slice none 0 0] N).toList) : Rowed B N 0 A T w := by
  obtain ⟨hl, hoc⟩ := h
  rcases hoc with ⟨hv, -⟩ | ⟨g, cap, cur, hv, hg, hh, hnc, hcp, hcs, htake⟩
  · cases hv
  cases hv
  have hcl : cur.toList.length = N := by simpa using hcs
  have e : cur.toList = List.replicate N (.slice none 0 0) := by
    rw [toList_madeCells_one, Nat.mul_one, List.take_of_length_le (by omega)] at htake
    exact htake
  refine ⟨cur.toList, hcl, by simpa using hh, fun t ht => absurd ht (Nat.not_lt_zero _), fun t _ ht => ?_⟩
  rw [e]
  simp [List.getD, ht]

theorem Rowed.skip {B N k : Nat} {A : Nat → Option Addr} {T : Nat → List Int} {wr : World} (h : Rowed B N k A T wr) (hk : k < N) (hA : A k = none) (hT : (T k).length = 0) : Rowed B N (k + 1) A T wr := by
  obtain ⟨cs, hl, hb, hc, hn⟩ := h
  refine ⟨cs, hl, hb, fun t ht => ?_, fun t h1 h2 => hn t (by omega) h2⟩
  rcases Nat.lt_or_ge t k with h | h
  · exact hc t h
  · obtain rfl : t = k := by omega
    exact .inl ⟨hA, List.eq_nil_of_length_eq_zero hT, hn t (Nat.le_refl _) hk⟩

theorem Rowed.lay {B N k g : Nat} {A : Nat → Option Addr} {T : Nat → List Int} {wr w2 : World} (h : Rowed B N k A T wr) (hk : k < N) (hA : A k ≠ none) (hg : B < g)
    (hold : ∀ j, j < wr.heap.size → w2.heap[j]? = wr.heap[j]?) (hnew : w2.heap[g]? = some (.cells (cellsU (T k)).toArray 5 (0, 0))) :
    Rowed B N (k + 1) A T (w2.setCell ⟨B, k, none⟩ (.slice (some ⟨g, 0, none⟩) (T k).length (T k).length)) := by
  obtain ⟨cs, hl, hb, hc, hn⟩ := h
  have hb2 : w2.heap[B]? = some (.cells cs.toArray 24 (0, 0)) := (hold B (lt_of_block hb)).trans hb
  refine ⟨cs.set k (.slice (some ⟨g, 0, none⟩) (T k).length (T k).length), by simpa using hl, ?_, fun t ht => ?_, fun t h1 h2 => ?_⟩
  · rw [set_block hb2 k _]
    simp
  · rcases Nat.lt_or_ge t k with h | h
    · have : (cs.set k (.slice (some ⟨g, 0, none⟩) (T k).length (T k).length)).getD t .nilIface = cs.getD t .nilIface := by
        simp [List.getD, List.getElem?_set_ne (show k ≠ t by omega)]
      rw [this]
      exact (hc t h).keep fun j h1 h2 => (Below.heap_setCell _ _ _ _ (by show j ≠ B; omega)).trans (hold j h1)
    · obtain rfl : t = k := by omega
      refine .inr ⟨g, hA, hg, ?_, (Below.heap_setCell _ _ _ _ (by show g ≠ B; omega)).trans hnew⟩
      simp [List.getD, List.getElem?_set_self (show t < cs.length by omega)]
  · have : (cs.set k (.slice (some ⟨g, 0, none⟩) (T k).length (T k).length)).getD t .nilIface = cs.getD t .nilIface := by
      simp [List.getD, List.getElem?_set_ne (show k ≠ t by omega)]
    rw [this]
    exact hn t (by omega) h2

/-- One delivery of a copy. -/
theorem deliver_copy (F : Interp) (L M C R g : Nat) (T : List Int) (f0 e0 : Value) (n : Nat) (w : World) (hF : F.answers w.tape) (hn : n < 4194304) (hl : Linked w L M C R)
    (hR : w.heap[R]? = some (.cells #[f0, .int .i64 n, e0] 29 (0, 0))) (hT : w.heap[g]? = some (.cells (cellsU T).toArray 5 (0, 0))) :
    Calls Tryf.prog 6 #[.pointer (some ⟨L, 0, none⟩), .slice (some ⟨g, 0, none⟩) T.length T.length] w fun e w' => e = .returned (.tuple #[]) ∧ (∃ p, w'.heap[R]? = some (.cells #[.slice (some ⟨g, 0, none⟩) T.length T.length, .int .i64 ((n : Int) + 1), .iface 121 (.pointer (some p))] 29 (0, 0))) ∧ w.grownBy w' (some R) := by
  apply zzdeliver_any
  by_cases h5 : T.length < 5
  · exact deliver_short F L M C R (some ⟨g, 0, none⟩) T.length T.length f0 e0 n w hF h5 hn hl hR
  · have hc := block_cells hT
    exact deliver_long F L M C R g 0 T.length T.length _ _ _ _ _ f0 e0 n w hF (by omega) (Nat.le_refl _) (lt_of_block hT) hn hl hR (hc 0 (by omega)) (hc 1 (by omega)) (hc 2 (by omega)) (hc 3 (by omega)) (hc 4 (by omega))

theorem deliver_nil (F : Interp) (L M C R : Nat) (f0 e0 : Value) (n : Nat) (w : World) (hF : F.answers w.tape) (hn : n < 4194304) (hl : Linked w L M C R)
    (hR : w.heap[R]? = some (.cells #[f0, .int .i64 n, e0] 29 (0, 0))) :
    Calls Tryf.prog 6 #[.pointer (some ⟨L, 0, none⟩), .slice none 0 0] w fun e w' => e = .returned (.tuple #[]) ∧ (∃ p, w'.heap[R]? = some (.cells #[.slice none 0 0, .int .i64 ((n : Int) + 1), .iface 121 (.pointer (some p))] 29 (0, 0))) ∧ w.grownBy w' (some R) :=
  zzdeliver_any (deliver_short F L M C R none 0 0 f0 e0 n w hF (by omega) hn hl hR)
end Go.Proofs.Qxb6614845aFmt
