/- 'DecodeMSU' and encoding/binary's Uint32. -/
import Derived.Test.Qxb6614845aFmtErr
import Derived.Deep.QuietTactic
import Derived.BigQuiet
import Derived.Deep.RegionWith
namespace Go.Proofs.Qxb6614845aFmt
open Go.RowKit Go.Extern.Stop Go.Stop Go.Extern
set_option linter.unusedVariables false

theorem uint32_any (b o n c : Nat) (x0 x1 x2 x3 : Int) (w : World) (hn : 4 ≤ n) (hc : n ≤ c) (hb : b < w.heap.size)
    (h0 : w.cell? ⟨b, o, none⟩ = some (.int .u8 x0)) (h1 : w.cell? ⟨b, o + 1, none⟩ = some (.int .u8 x1)) (h2 : w.cell? ⟨b, o + 2, none⟩ = some (.int .u8 x2)) (h3 : w.cell? ⟨b, o + 3, none⟩ = some (.int .u8 x3)) :
    Calls Tryf.prog 14 #[.agg #[], .slice (some ⟨b, o, none⟩) n c] w fun e w' => (∃ r, e = .returned (.int .u32 r)) ∧ Below w.heap.size w w' := by
  have i1 : (1 : Int) < (n : Int) := by omega
  have i2 : (2 : Int) < (n : Int) := by omega
  have i3 : (3 : Int) < (n : Int) := by omega
  have i0 : (0 : Int) < (n : Int) := by omega
  go_enter Tryf.func14, Tryf.ntmps14
  go_wp2
  go_quiet (fail)
  go_wp2
  go_ret
  exact ⟨⟨_, rfl⟩, below_drewN ((Below.refl _ _).alloc (Nat.le_refl _) _) _⟩

theorem bcell {W w1 : World} (hb : Below W.heap.size W w1) : (∀ b o, b < W.heap.size → w1.cell? ⟨b, o, none⟩ = W.cell? ⟨b, o, none⟩) ∧ (∀ b o, b < W.heap.size → w1.frozen? ⟨b, o, none⟩ = W.frozen? ⟨b, o, none⟩) :=
  ⟨fun b o h => hb.cell (p := ⟨b, o, none⟩) h, fun b o h => hb.frozen (p := ⟨b, o, none⟩) h⟩

/-- A struct of five cells stored whole. -/
def set5 (w : World) (B : Nat) (v0 v1 v2 v3 v4 : Value) : World :=
  ((((w.setCell ⟨B, 0, none⟩ v0).setCell ⟨B, 1, none⟩ v1).setCell ⟨B, 2, none⟩ v2).setCell ⟨B, 3, none⟩ v3).setCell ⟨B, 4, none⟩ v4
theorem set_block {w : World} {B : Nat} {cs : Array Value} {t : TypeId} (h : w.heap[B]? = some (.cells cs t (0, 0))) (i : Nat) (v : Value) : (w.setCell ⟨B, i, none⟩ v).heap[B]? = some (.cells (cs.setIfInBounds i v) t (0, 0)) := by
  have hlt := lt_of_block h
  have h' : w.heap[B] = .cells cs t (0, 0) := by simpa [Array.getElem?_eq_getElem hlt] using h
  show (w.heap.modify B _)[B]? = _
  rw [Array.getElem?_eq_getElem (by simpa using hlt), Array.getElem_modify_self, h']
  rfl
theorem set5_block {w : World} {B : Nat} {a0 a1 a2 a3 a4 : Value} {t : TypeId} (h : w.heap[B]? = some (.cells #[a0, a1, a2, a3, a4] t (0, 0))) (v0 v1 v2 v3 v4 : Value) : (set5 w B v0 v1 v2 v3 v4).heap[B]? = some (.cells #[v0, v1, v2, v3, v4] t (0, 0)) := by
  unfold set5
  rw [set_block (set_block (set_block (set_block (set_block h 0 v0) 1 v1) 2 v2) 3 v3) 4 v4]
  rfl
theorem set5_below {B : Nat} {w w1 : World} (h : Below B w w1) (v0 v1 v2 v3 v4 : Value) : Below B w (set5 w1 B v0 v1 v2 v3 v4) :=
  ((((h.setCell (Nat.le_refl _) _).setCell (Nat.le_refl _) _).setCell (Nat.le_refl _) _).setCell (Nat.le_refl _) _).setCell (Nat.le_refl _) _
theorem cells5 {w : World} {B : Nat} {a0 a1 a2 a3 a4 : Value} {t : TypeId} (h : w.heap[B]? = some (.cells #[a0, a1, a2, a3, a4] t (0, 0))) :
    w.cell? ⟨B, 0, none⟩ = some a0 ∧ w.cell? ⟨B, 1, none⟩ = some a1 ∧ w.cell? ⟨B, 2, none⟩ = some a2 ∧ w.cell? ⟨B, 3, none⟩ = some a3 ∧ w.cell? ⟨B, 4, none⟩ = some a4 := by
  simp [World.cell?, h]

theorem free5 {w : World} {B : Nat} {cs : Array Value} {t : TypeId} (h : w.heap[B]? = some (.cells cs t (0, 0))) :
    w.frozen? ⟨B, 0, none⟩ = false ∧ w.frozen? ⟨B, 1, none⟩ = false ∧ w.frozen? ⟨B, 2, none⟩ = false ∧ w.frozen? ⟨B, 3, none⟩ = false ∧ w.frozen? ⟨B, 4, none⟩ = false := by
  simp [World.frozen?, h]

/-- What 's[lo:]' hands back, under one name. -/
def tailV (b o n c lo : Nat) : Value := .slice (some ⟨b, if c = lo then o else o + lo, none⟩) (n - lo) (c - lo)
theorem sizeU8 (w : World) : (Go.sizeOf 5).run Tryf.prog w = .ok 1 w := by kernel_rfl
theorem slice_from (b o n c lo : Nat) (hlo : lo ≤ n) (hn : n ≤ c) (W : World) :
    (Instr.slice 24 (.slice (some ⟨b, o, none⟩) n c) (some (.int .i64 (lo : Int))) none none).run Tryf.prog W = .ok (tailV b o n c lo) W := by
  have ht : Tryf.prog.underlying 24 = some (.slice (Tryf.prog.elem 24)) := by simp [Program.elem, Tryf.underlying24]
  have he : Tryf.prog.elem 24 = 5 := by simp [Program.elem, Tryf.underlying24]
  rw [run_slice_l W 24 _ _ _ ht .i64 _ (by omega) (by omega), he, sizeU8]
  by_cases h : c = lo
  · simp [Result.andThen, sliced, tailV, h]
  · simp [Result.andThen, sliced, tailV, h, Addr.add]

def zeroMsu : Value := .agg #[.int .u8 0, .int .u16 0, .int .u16 0, .int .u8 0, .slice none 0 0]

theorem decode_short (F : Interp) (a : Option Addr) (n c : Nat) (w : World) (hF : F.answers w.tape) (hn : n < 5) :
    Calls Tryf.prog 11 #[.slice a n c] w fun e w' => ∃ p, e = .returned (.tuple #[zeroMsu, .iface 121 (.pointer (some p))]) ∧ Below w.heap.size w w' := by
  have hnI : (n : Int) < 5 := by omega
  have hF2 : F.answers ((w.alloc (.cells #[.int .u8 0, .int .u16 0, .int .u16 0, .int .u8 0, .slice none 0 0] 49)).alloc (.cells #[.iface 3 (.int .i64 n), .iface 3 (.int .i64 5)] 20)).tape := hF
  have he := errShort F (w.heap.size + 1) n ((w.alloc (.cells #[.int .u8 0, .int .u16 0, .int .u16 0, .int .u8 0, .slice none 0 0] 49)).alloc (.cells #[.iface 3 (.int .i64 n), .iface 3 (.int .i64 5)] 20)) hF2 (by simp [go_sem]) (by simp [go_sem])
  go_enter Tryf.func11, Tryf.ntmps11
  go_wp2_with (fail)
  refine he.mono ?_
  rintro e w1 ⟨rfl, hb1⟩
  obtain ⟨hcc, hff⟩ := bcell hb1
  have hz : w.heap.size + 1 < w1.heap.size := by have := hb1.size; simp at this; omega
  have HB : Hid _ := hb1
  clear hb1 he hF2
  go_wp2
  obtain ⟨W5, hW5⟩ : ∃ W5, W5 = set5 w1 w.heap.size (.int .u8 0) (.int .u16 0) (.int .u16 0) (.int .u8 0) (.slice none 0 0) := ⟨_, rfl⟩
  have hblk : w1.heap[w.heap.size]? = some (.cells #[.int .u8 0, .int .u16 0, .int .u16 0, .int .u8 0, .slice none 0 0] 49 (0, 0)) :=
    (HB.out.block _ (by simp; omega)).trans ((Below.heap_alloc _ _ _ (by simp)).trans (MapKept.heap_alloc w _).1)
  have hblk5 := set5_block hblk (.int .u8 0) (.int .u16 0) (.int .u16 0) (.int .u8 0) (.slice none 0 0)
  rw [← hW5] at hblk5
  obtain ⟨c0, c1, c2, c3, c4⟩ := cells5 hblk5
  show bodyPost Tryf.prog Tryf.f11 _ Exit.ret _ (set5 w1 w.heap.size (.int .u8 0) (.int .u16 0) (.int .u16 0) (.int .u8 0) (.slice none 0 0))
  rw [← hW5]
  refine bodyPost_ret (v := .tuple #[zeroMsu, .iface 121 (.pointer (some ⟨w.heap.size + 1 + 1, 0, none⟩))]) (by simp [results, Tryf.results11, zeroMsu, go_sem, c0, c1, c2, c3, c4]) rfl ⟨_, rfl, ?_⟩
  have h0 : Below w.heap.size w w1 := (((Below.refl _ _).alloc (Nat.le_refl _) _).alloc (by simp) _).trans (HB.out.mono (by simp; omega))
  rw [hW5]
  exact set5_below h0 _ _ _ _ _

set_option maxHeartbeats 1000000 in
theorem decode_long (b o n c : Nat) (x0 x1 x2 x3 x4 : Int) (w : World) (hn : 5 ≤ n) (hc : n ≤ c) (hb : b < w.heap.size)
    (h0 : w.cell? ⟨b, o, none⟩ = some (.int .u8 x0)) (h1 : w.cell? ⟨b, o + 1, none⟩ = some (.int .u8 x1)) (h2 : w.cell? ⟨b, o + 2, none⟩ = some (.int .u8 x2)) (h3 : w.cell? ⟨b, o + 3, none⟩ = some (.int .u8 x3)) (h4 : w.cell? ⟨b, o + 4, none⟩ = some (.int .u8 x4)) :
    Calls Tryf.prog 11 #[.slice (some ⟨b, o, none⟩) n c] w fun e w' => (∃ s d p l q n' c', e = .returned (.tuple #[.agg #[.int .u8 s, .int .u16 d, .int .u16 p, .int .u8 l, .slice q n' c'], .nilIface])) ∧ Below w.heap.size w w' := by
  have hnI : ¬ (n : Int) < 5 := by omega
  have hb1 : b < w.heap.size + 1 := by omega
  have hn1 : (1 : Int) ≤ (n : Int) := by omega
  have hc1 : ¬ c = 1 := by omega
  have hu := fun (W : World) (hW : Below w.heap.size w W) => uint32_any b (o + 1) (n - 1) (c - 1) x1 x2 x3 x4 W (by omega) (by omega) (Nat.lt_of_lt_of_le hb hW.size) ((hW.cell (p := ⟨b, o + 1, none⟩) hb).trans h1) ((hW.cell (p := ⟨b, o + 2, none⟩) hb).trans h2) ((hW.cell (p := ⟨b, o + 3, none⟩) hb).trans h3) ((hW.cell (p := ⟨b, o + 4, none⟩) hb).trans h4)
  go_enter Tryf.func11, Tryf.ntmps11
  go_wp2
  go_region_with (go_at_call 14; refine (hu _ (((Below.refl _ _).alloc (Nat.le_refl _) _).drew)).mono ?_; rintro e w1 ⟨⟨r, rfl⟩, hb1⟩)
  have hblk : w1.heap[w.heap.size]? = some (.cells #[.int .u8 0, .int .u16 0, .int .u16 0, .int .u8 0, .slice none 0 0] 49 (0, 0)) :=
    (hb1.block _ (by simp)).trans (MapKept.heap_alloc w _).1
  have hB1 : Below w.heap.size w w1 := (((Below.refl _ _).alloc (Nat.le_refl _) _).drew).trans (hb1.mono (by simp))
  have h01 : w1.cell? ⟨b, o, none⟩ = some (.int .u8 x0) := (hB1.cell (p := ⟨b, o, none⟩) hb).trans h0
  obtain ⟨c0, c1, c2, c3, c4⟩ := cells5 hblk
  obtain ⟨f0, f1, f2, f3, f4⟩ := free5 hblk
  have HB1 : Hid (Below w.heap.size w w1) := hB1
  have HK : Hid _ := hblk
  have hnI5 : (5 : Int) ≤ (n : Int) := by omega
  have hn0 : (0 : Int) < (n : Int) := by omega
  have hn00 : 0 < n := by omega
  obtain ⟨o5, ho5⟩ : ∃ o5, tailV b o n c 5 = .slice (some ⟨b, o5, none⟩) (n - 5) (c - 5) := ⟨_, rfl⟩
  have hc5 : ∀ W, (Instr.slice 24 (.slice (some ⟨b, o, none⟩) n c) (some (.int .i64 5)) none none).run Tryf.prog W = .ok (.slice (some ⟨b, o5, none⟩) (n - 5) (c - 5)) W := fun W => ho5 ▸ slice_from b o n c 5 hn hc W
  clear ho5
  clear hb1 hB1 hblk hu h0 h1 h2 h3 h4
  go_wp2
  go_region
  go_wp2
  obtain ⟨W5, hW5⟩ : ∃ W5, W5 = set5 w1 w.heap.size (.int .u8 x0) (.int .u16 (IntKind.u16.wrap (bits BinOp.and IntKind.u32 r 16383))) (.int .u16 (IntKind.u16.wrap (bits BinOp.and IntKind.u32 (r / 16384) 16383))) (.int .u8 (IntKind.u8.wrap (r / 268435456))) (.slice (some ⟨b, o5, none⟩) (n - 5) (c - 5)) := ⟨_, rfl⟩
  have hblk5 := set5_block HK.out (.int .u8 x0) (.int .u16 (IntKind.u16.wrap (bits BinOp.and IntKind.u32 r 16383))) (.int .u16 (IntKind.u16.wrap (bits BinOp.and IntKind.u32 (r / 16384) 16383))) (.int .u8 (IntKind.u8.wrap (r / 268435456))) (.slice (some ⟨b, o5, none⟩) (n - 5) (c - 5))
  rw [← hW5] at hblk5
  obtain ⟨d0, d1, d2, d3, d4⟩ := cells5 hblk5
  show bodyPost Tryf.prog Tryf.f11 _ Exit.ret _ (set5 w1 w.heap.size (.int .u8 x0) (.int .u16 (IntKind.u16.wrap (bits BinOp.and IntKind.u32 r 16383))) (.int .u16 (IntKind.u16.wrap (bits BinOp.and IntKind.u32 (r / 16384) 16383))) (.int .u8 (IntKind.u8.wrap (r / 268435456))) (.slice (some ⟨b, o5, none⟩) (n - 5) (c - 5))).drew
  rw [← hW5]
  refine bodyPost_ret (v := .tuple #[.agg #[.int .u8 x0, (.int .u16 (IntKind.u16.wrap (bits BinOp.and IntKind.u32 r 16383))), (.int .u16 (IntKind.u16.wrap (bits BinOp.and IntKind.u32 (r / 16384) 16383))), (.int .u8 (IntKind.u8.wrap (r / 268435456))), (.slice (some ⟨b, o5, none⟩) (n - 5) (c - 5))], .nilIface]) (by simp [results, Tryf.results11, go_sem, d0, d1, d2, d3, d4]) rfl ⟨⟨_, _, _, _, _, _, _, rfl⟩, ?_⟩
  rw [hW5]
  exact (set5_below HB1.out _ _ _ _ _).drew
end Go.Proofs.Qxb6614845aFmt
