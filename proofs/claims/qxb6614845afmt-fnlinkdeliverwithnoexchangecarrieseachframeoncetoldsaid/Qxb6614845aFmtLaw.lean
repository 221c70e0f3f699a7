/- The walk of the law: frames that are there. -/
import Derived.Test.Qxb6614845aFmtParts
import Derived.OpenShut
namespace Go.Proofs.Qxb6614845aFmt
open Go.RowKit Go.Extern.Stop Go.Stop Go.Extern
set_option linter.unusedVariables false


/-- The draws turn no cell. -/
theorem drew_cells {w w8 : World} {n : Nat} (h : w8 = w.drewN n) {p : Addr} {v : Value} (hc : w.cell? p = some v) : w8.cell? p = some v := by
  rw [h]
  simpa using hc

/-- What the loop of deliveries carries along is not turned by a draw. -/
theorem drew_rel {B L M C R : Nat} {a w w2 : World} {n : Nat} {v : Obj} (h : w2 = w.drewN n) (hb : Below B a w) (hl : Linked w L M C R) (hr : w.heap[R]? = some v) : Below B a w2 ∧ Linked w2 L M C R ∧ w2.heap[R]? = some v := by
  subst h
  exact ⟨⟨hb.os, hb.tape, hb.output, hb.size, hb.block⟩, ⟨hl.link, hl.tab, hl.box, hl.nl, hl.nm, hl.nc⟩, hr⟩

theorem next_rel {R k : Nat} {w : World} {f e : Value} (h : w.heap[R]? = some (.cells #[f, .int .i64 ((k : Int) + 1), e] 29 (0, 0))) : w.heap[R]? = some (.cells #[f, .int .i64 ((k + 1 : Nat) : Int), e] 29 (0, 0)) := by
  rw [h]
  simp

/-- One delivery of a frame's copy, in a later world. -/
theorem deliver_frame (F : Interp) (L M C R G : Nat) (Ao : Option Addr) (T : List Int) (v f0 e0 : Value) (n : Nat) (wr w : World) (hF : F.answers w.tape) (hn : n < 4194304) (hl : Linked w L M C R)
    (hR : w.heap[R]? = some (.cells #[f0, .int .i64 n, e0] 29 (0, 0))) (hb : Below wr.heap.size wr w) (hv : Copied G wr Ao T v) :
    ∃ a, v = .slice a T.length T.length ∧
      (Calls Tryf.prog 6 #[.pointer (some ⟨L, 0, none⟩), .slice a T.length T.length] w fun e w' => e = .returned (.tuple #[]) ∧ (∃ p, w'.heap[R]? = some (.cells #[.slice a T.length T.length, .int .i64 ((n : Int) + 1), .iface 121 (.pointer (some p))] 29 (0, 0))) ∧ w.grownBy w' (some R)) ∧
      (0 < T.length → ∃ g, a = some ⟨g, 0, none⟩ ∧ g < wr.heap.size ∧ w.heap[g]? = some (.cells (cellsU T).toArray 5 (0, 0)) ∧ Ao ≠ none) := by
  rcases hv with ⟨-, rfl, rfl⟩ | ⟨g, h1, h2, rfl, h4⟩
  · exact ⟨none, rfl, deliver_nil F L M C R f0 e0 n w hF hn hl hR, fun h => by cases h⟩
  · have hg := (hb.block g (lt_of_block h4)).trans h4
    exact ⟨_, rfl, deliver_copy F L M C R g T f0 e0 n w hF hn hl hR hg, fun _ => ⟨g, rfl, lt_of_block h4, hg, h1⟩⟩

theorem none_ne (a : Option Addr) : (a.isNone != a.isNone) = false := by simp

set_option maxHeartbeats 8000000 in
set_option maxRecDepth 100000 in
theorem law_some (F : Interp) (xb xo N cap : Nat) (A : Nat → Option Addr) (T : Nat → List Int) (C : Nat → Nat) (w : World) (hF : F.answers w.tape) (hN : N ≤ maxLen) (hNp : 0 < N) (hxb : xb < w.heap.size)
    (hLm : ∀ r, r < N → (T r).length ≤ maxLen) (hx : ∀ r, r < N → w.cell? ⟨xb, xo + r, none⟩ = some (.slice (A r) (T r).length (C r)))
    (hA0 : ∀ r, r < N → A r = none → (T r).length = 0) (hAc : ∀ r, r < N → ∀ x, A r = some x → ∀ j, j < (T r).length → w.cell? (x.add j) = some (.int .u8 (gx (T r) j))) :
    Calls Tryf.prog 3 #[.slice (some ⟨xb, xo, none⟩) N cap] w fun e w' => e = .returned (.bool true) ∧ Below w.heap.size w w' := by
  have hby := bytes_any xb xo N cap A (fun r => (T r).length) C w hN hLm hx
  have hnil := fun (W : World) (a : Option Addr) (n c n' c' : Nat) => run_neq_slice_nil_any (P := Tryf.prog) W 24 5 a n c n' c' Tryf.underlying24
  obtain ⟨i0, hi, hz0, hz1, hz2⟩ := info_parts info5
  obtain ⟨j0, hj, hy0, hy1, hy2⟩ := info_parts info24
  have HX : Hid (∀ r, r < N → w.cell? ⟨xb, xo + r, none⟩ = some (.slice (A r) (T r).length (C r))) := hx
  have HM : Hid (∀ r, r < N → (T r).length ≤ maxLen) := hLm
  have HA0 : Hid (∀ r, r < N → A r = none → (T r).length = 0) := hA0
  have HAc : Hid (∀ r, r < N → ∀ x, A r = some x → ∀ j, j < (T r).length → w.cell? (x.add j) = some (.int .u8 (gx (T r) j))) := hAc
  clear hx hLm hA0 hAc
  unfold maxLen at hN
  go_enter Tryf.func3, Tryf.ntmps3
  go_wp2_with (fail)
  refine hby.mono ?_
  rintro e w0 ⟨⟨rb, rfl, hrb⟩, hw⟩
  have HRB : Hid (rb = true → ∀ t, t < N → (T t).length ≤ 1048576) := hrb
  clear hrb
  have hw' := hw.symm
  subst hw'
  clear hw hby
  cases rb
  · go_wp2
    go_ret
    exact ⟨rfl, Below.refl _ _⟩
  · by_cases hbig : N ≤ 4096
    · have hbigI : ¬ (4096 : Int) < (N : Int) := by omega
      go_wp2
      go_loop [3, 4] (fun s i => ∃ (k : Nat) (z : Int), k ≤ N ∧ 0 ≤ z ∧ z ≤ 1048576 ∧ s = .int .i64 z ∧ i = .int .i64 k ∧ ∀ t, t < k → (T t).length ≤ 1048576) (fun _ i => N - (intOf i).toNat)
      case atStart => exact ⟨0, 0, Nat.zero_le _, by omega, by omega, rfl, rfl, fun t h => absurd h (Nat.not_lt_zero _)⟩
      case round =>
        obtain ⟨k, z, hk, hzl, hzh, rfl, rfl, hall⟩ := hrel
        have HL : Hid (∀ t, t < k → (T t).length ≤ 1048576) := hall
        clear hall
        by_cases hlt : k < N
        · have hck := HX.out k hlt
          have hLk := HRB.out (by trivial) k hlt
          by_cases hs : z + (24 + ((T k).length : Int)) ≤ 1048576
          · go_wp2
            go_round
            case rel => exact ⟨k + 1, _, by omega, by omega, by omega, rfl, by go_num, fun t ht => (Nat.lt_or_ge t k).elim (fun h => HL.out t h) (fun h => (show t = k by omega) ▸ hLk)⟩
            case measure => simp [intOf]; omega
          · go_wp2
            go_ret
            exact ⟨rfl, Below.refl _ _⟩
        · have HL2 : Hid (∀ t, t < N → (T t).length ≤ 1048576) := fun t ht => HL.out t (by omega)
          clear HL
          go_wp2_with (at_make; refine wpList_make_full _ rfl (.tmp 34) (.tmp 34) 22 rfl w.heap.size 24 j0 (.slice none 0 0) 1 Tryf.underlying22 hj hy0 hy1 .i64 .i64 _ _ N rfl rfl rfl rfl (by rw [hy2]; omega) (by unfold maxLen; omega) (Nat.le_refl _) ?_)
          intro w1 hown hgrow
          have HR1 : Hid (Rowed w.heap.size N 0 A T w1) := Rowed.start hown
          have HB1 : Hid (Below w.heap.size w w1) := (Below.refl _ _).grown hgrow (Nat.le_refl _) (by simp)
          clear hown hgrow
          go_wp2
          go_loopw [6] (fun i wr => ∃ k : Nat, k ≤ N ∧ i = .int .i64 k ∧ Below w.heap.size w wr ∧ Rowed w.heap.size N k A T wr) (fun i _ => N - (intOf i).toNat)
          case atStart => exact ⟨0, Nat.zero_le _, rfl, HB1.out, HR1.out⟩
          case round =>
            obtain ⟨k2, hk2, rfl, hbel, hrow⟩ := hrel
            have HB : Hid (Below w.heap.size w wr) := hbel
            have HR : Hid (Rowed w.heap.size N k2 A T wr) := hrow
            clear hbel hrow HR1 HB1
            by_cases hlt2 : k2 < N
            · have hck : wr.cell? ⟨xb, xo + k2, none⟩ = some (.slice (A k2) (T k2).length (C k2)) := (HB.out.cell (p := ⟨xb, xo + k2, none⟩) hxb).trans (HX.out k2 hlt2)
              have hLk := HL2.out k2 hlt2
              cases hA : A k2 with
              | none =>
                rw [hA] at hck
                go_wp2
                go_roundw
                case rel => exact ⟨k2 + 1, by omega, by go_num, HB.out, HR.out.skip hlt2 hA (HA0.out k2 hlt2 hA)⟩
                case measure => simp [intOf]; omega
              | some x =>
                rw [hA] at hck
                have HA : Hid (A k2 = some x) := hA
                clear hA
                go_wp2_with (at_make; refine wpList_make_full _ rfl (.tmp 51) (.tmp 51) 24 rfl w.heap.size 5 i0 (.int .u8 0) 1 Tryf.underlying24 hi hz0 hz1 .i64 .i64 _ _ (T k2).length rfl rfl rfl rfl (by rw [hz2]; omega) (by unfold maxLen; omega) HB.out.size ?_)
                intro w3 hown3 hgrow3
                obtain ⟨hol, hoc⟩ := hown3
                rcases hoc with ⟨hv, -⟩ | ⟨g, cp, cur, hv, hg, hh, hnc, hcp, hcs, htake⟩
                · cases hv
                cases hv
                have hcl : cur.size = (T k2).length := by omega
                have HH : Hid (w3.heap[wr.heap.size]? = some (.cells cur.toList.toArray 5 (0, 0))) := by rw [Hid, hh]
                have hb3 : Below wr.heap.size wr w3 := (Below.refl _ _).grown hgrow3 (Nat.le_refl _) (by simp)
                have hbw : Below w.heap.size w w3 := HB.out.trans (hb3.mono HB.out.size)
                have hck3 : w3.cell? ⟨xb, xo + k2, none⟩ = some (.slice (some x) (T k2).length (C k2)) := (hb3.cell (p := ⟨xb, xo + k2, none⟩) (Nat.lt_of_lt_of_le hxb HB.out.size)).trans hck
                have HT : Hid (∀ j v, (cellsU (T k2))[j]? = some v → w3.cell? (x.add j) = some v) := fun j v hj => by
                  obtain ⟨h1, h2⟩ := cellsU_get hj
                  subst h2
                  exact cell_later hbw (HAc.out k2 hlt2 x HA.out j h1)
                clear hgrow3 htake hh hck hbw hol hg hnc hcp hcs
                go_wp2_with (refine wpList_copy_splice rfl (.tmp 53) (.tmp 57) 24 24 rfl 5 Tryf.underlying24 sizeInfo5 _ _ _ _ _ _ rfl rfl wr.heap.size 0 cur.toList 5 HH.out (cellsU (T k2)) (by rw [cellsU_length]; simp) (fun _ => ⟨rfl, x, rfl, HT.out⟩) (by rw [cellsU_length]; simp; omega) (cellsU_one (T k2)) wr.heap.size wr hb3 (Nat.le_refl _) ?_)
                intro w4 hw4 hb4
                have HW4 : Hid (w4.heap[wr.heap.size]? = some (.cells (cellsU (T k2)).toArray 5 (0, 0))) := by
                  have h := hw4.out
                  rwa [splice_all (by rw [cellsU_length]; simp [hcl])] at h
                have HB4 : Hid (Below wr.heap.size wr w4) := hb4
                have hrow := HR.out
                obtain ⟨cs, hcsl, hcsb, -, -⟩ := hrow
                have hBw : w.heap.size < wr.heap.size := lt_of_block hcsb
                obtain ⟨hfc, hff⟩ := row_cell hcsl hcsb k2 hlt2
                have hfc4 : w4.cell? ⟨w.heap.size, k2, none⟩ = some (cs.getD k2 .nilIface) := (hb4.cell (p := ⟨w.heap.size, k2, none⟩) hBw).trans hfc
                have hff4 : w4.frozen? ⟨w.heap.size, k2, none⟩ = false := (hb4.frozen (p := ⟨w.heap.size, k2, none⟩) hBw).trans hff
                obtain ⟨ov, hov⟩ : ∃ ov, cs.getD k2 .nilIface = ov := ⟨_, rfl⟩
                rw [hov] at hfc4
                clear hw4 hb4 HH HT hb3 hck3 hfc hff hcsb hcsl hov hcl
                go_wp2
                go_roundw
                case rel => exact ⟨k2 + 1, by omega, by go_num, (HB.out.trans (HB4.out.mono HB.out.size)).setCell (Nat.le_refl _) _, HR.out.lay hlt2 (by rw [HA.out]; simp) hBw HB4.out.block HW4.out⟩
                case measure => simp [intOf]; omega
            · have HR2 : Hid (Rowed w.heap.size N N A T wr) := by have h := HR.out; rwa [show k2 = N by omega] at h
              clear HR hz0 hz1 hz2 hj hy0 hy1 hy2
              have hbA : Below wr.heap.size wr (wr.alloc (.cells #[.slice none 0 0, .int .i64 0, .nilIface] 29)) := (Below.refl _ _).alloc (Nat.le_refl _) _
              have hnl := newlink_any wr.heap.size (wr.alloc (.cells #[.slice none 0 0, .int .i64 0, .nilIface] 29)) (by simp)
              have HBA : Hid _ := hbA
              have HRec : Hid ((wr.alloc (.cells #[.slice none 0 0, .int .i64 0, .nilIface] 29)).heap[wr.heap.size]? = some (.cells #[.slice none 0 0, .int .i64 0, .nilIface] 29 (0, 0))) := (MapKept.heap_alloc wr _).1
              have hsA : wr.heap.size < (wr.alloc (.cells #[.slice none 0 0, .int .i64 0, .nilIface] 29)).heap.size := by simp
              have HSA : Hid _ := hsA
              clear hbA hsA
              go_wp2_with (fail)
              refine hnl.mono ?_
              rintro e w6 ⟨Lk, Mk, Ck, rfl, hlk, hb6⟩
              clear hnl
              have HB6 : Hid (Below wr.heap.size wr w6) := HBA.out.trans (hb6.mono (Nat.le_of_lt HSA.out))
              have HR6 : Hid (w6.heap[wr.heap.size]? = some (.cells #[.slice none 0 0, .int .i64 0, .nilIface] 29 (0, 0))) := (hb6.block _ HSA.out).trans HRec.out
              have HL6 : Hid (Linked w6 Lk Mk Ck wr.heap.size) := hlk
              clear hb6 hlk HRec HBA HSA
              go_wp2
              obtain ⟨wq, rfl⟩ : ∃ wq, wq = wr := ⟨_, rfl⟩
              go_loopw [10] (fun i ww => ∃ (k : Nat) (f e : Value), k ≤ N ∧ i = .int .i64 k ∧ Below wq.heap.size wq ww ∧ Linked ww Lk Mk Ck wq.heap.size ∧ ww.heap[wq.heap.size]? = some (.cells #[f, .int .i64 k, e] 29 (0, 0))) (fun i _ => N - (intOf i).toNat)
              case atStart => exact ⟨0, _, _, Nat.zero_le _, rfl, HB6.out, HL6.out, HR6.out⟩
              case round =>
                obtain ⟨ww, rfl⟩ : ∃ ww, ww = wr := ⟨_, rfl⟩
                obtain ⟨k3, f3, e3, hk3, rfl, hb7, hl7, hr7⟩ := hrel
                clear HB6 HL6 HR6
                have HB7 : Hid (Below wq.heap.size wq ww) := hb7
                have HL7 : Hid (Linked ww Lk Mk Ck wq.heap.size) := hl7
                have HR7 : Hid (ww.heap[wq.heap.size]? = some (.cells #[f3, .int .i64 k3, e3] 29 (0, 0))) := hr7
                clear hb7 hl7 hr7
                by_cases hlt3 : k3 < N
                · have hrow := HR2.out
                  obtain ⟨cs, hcsl, hcsb, hcop, -⟩ := hrow
                  have hck : ww.cell? ⟨xb, xo + k3, none⟩ = some (.slice (A k3) (T k3).length (C k3)) := (HB7.out.cell (p := ⟨xb, xo + k3, none⟩) (Nat.lt_of_lt_of_le hxb HB.out.size)).trans ((HB.out.cell (p := ⟨xb, xo + k3, none⟩) hxb).trans (HX.out k3 hlt3))
                  have hBw : w.heap.size < wq.heap.size := lt_of_block hcsb
                  have hRw : wq.heap.size < ww.heap.size := lt_of_block HR7.out
                  have hfc := (HB7.out.cell (p := ⟨w.heap.size, k3, none⟩) hBw).trans (row_cell hcsl hcsb k3 hlt3).1
                  obtain ⟨a, hva, hdel, hpos⟩ := deliver_frame F Lk Mk Ck wq.heap.size w.heap.size (A k3) (T k3) _ f3 e3 k3 wq ww (by rw [HB7.out.tape, HB.out.tape]; exact hF) (by omega) HL7.out HR7.out HB7.out (hcop k3 hlt3)
                  rw [hva] at hfc
                  have HP : Hid (0 < (T k3).length → ∃ g, a = some ⟨g, 0, none⟩ ∧ g < wq.heap.size ∧ ww.heap[g]? = some (.cells (cellsU (T k3)).toArray 5 (0, 0)) ∧ A k3 ≠ none) := hpos
                  have hLk := HL2.out k3 hlt3
                  have hlt3I : (k3 : Int) < (N : Int) := by omega
                  clear hpos hva hcop hcsb hcsl
                  go_wp2_with (fail)
                  refine hdel.mono ?_
                  rintro e w7 ⟨rfl, ⟨p, hr8⟩, hg8⟩
                  clear hdel
                  have hxq : xb < wq.heap.size := Nat.lt_of_lt_of_le hxb HB.out.size
                  have hfc8 : w7.cell? ⟨w.heap.size, k3, none⟩ = _ := (World.cell?_of_block (w := ww) (a := ⟨w.heap.size, k3, none⟩) (hg8.block w.heap.size (by omega) (by simp; omega))).trans hfc
                  have hck8 : w7.cell? ⟨xb, xo + k3, none⟩ = _ := (World.cell?_of_block (w := ww) (a := ⟨xb, xo + k3, none⟩) (hg8.block xb (by omega) (by simp; omega))).trans hck
                  obtain ⟨⟨r0, r1, r2⟩, -, -, -⟩ := three hr8
                  have HB8 : Hid (Below wq.heap.size wq w7) := HB7.out.grown hg8 (by omega) (by simp)
                  have HL8 : Hid (Linked w7 Lk Mk Ck wq.heap.size) := HL7.out.grown hg8
                  have HR8 : Hid (w7.heap[wq.heap.size]? = some (.cells #[.slice a (T k3).length (T k3).length, .int .i64 ((k3 : Int) + 1), .iface 121 (.pointer (some p))] 29 (0, 0))) := hr8
                  have HG8 : Hid (ww.grownBy w7 (some wq.heap.size)) := hg8
                  clear hr8 hg8 hfc hck
                  have e1 : ((k3 : Int) + 1 != (k3 : Int) + 1) = false := by simp
                  have e2 : (((T k3).length : Int) != ((T k3).length : Int)) = false := by simp
                  have e3 := none_ne a
                  have hnil2 := fun (W : World) (a : Option Addr) (n c n' c' : Nat) => Lib.run_eql_slice_nil (P := Tryf.prog) W 24 5 a n c n' c' Tryf.underlying24
                  go_wp2
                  go_quiet (fail)
                  go_wp2
                  obtain ⟨w8, hw8⟩ : ∃ w8, w8 = w7.drewN nq := ⟨_, rfl⟩
                  rw [← hw8]
                  have r0' := drew_cells hw8 r0
                  have hfc' := drew_cells hw8 hfc8
                  have hck' := drew_cells hw8 hck8
                  have HW8 : Hid (w8 = w7.drewN nq) := hw8
                  clear hw8
                  have hptr := fun (W : World) (a : Addr) => Lib.run_neq_ptr_same (P := Tryf.prog) W (tp := 33) (te := 5) a Tryf.underlying33 hi
                  by_cases hz : (T k3).length = 0
                  · rw [hz] at r0' hfc' hck'
                    clear e2
                    go_quiet (fail)
                    go_wp2
                    obtain ⟨w9, hw9⟩ : ∃ w9, w9 = w8.drewN nq := ⟨_, rfl⟩
                    rw [← hw9]
                    have r0'' := drew_cells hw9 r0'
                    have hck'' := drew_cells hw9 hck'
                    have HW9 : Hid (w9 = w8.drewN nq) := hw9
                    clear hw9 r0 r1 r2 r0' hck' hfc' hck8 hfc8
                    go_quiet ((go_at_call 7; exact Calls.quiet_of (same_empty _ _ _ _ _)))
                    go_wp2
                    go_roundw
                    case rel =>
                      obtain ⟨h1, h2, h3⟩ := drew_rel HW8.out HB8.out HL8.out HR8.out
                      obtain ⟨h4, h5, h6⟩ := drew_rel HW9.out h1 h2 h3
                      obtain ⟨h7, h8, h9⟩ := drew_rel rfl h4 h5 h6
                      exact ⟨k3 + 1, _, _, by omega, by go_num, h7, h8, next_rel h9⟩
                    case measure => simp [intOf]; omega
                  · have hzp : 0 < (T k3).length := by omega
                    have hzI : (0 : Int) < ((T k3).length : Int) := by omega
                    obtain ⟨g, rfl, hgq, hgb, hAn⟩ := HP.out hzp
                    have hAk := HAc.out k3 hlt3
                    cases hA : A k3 with
                    | none => exact absurd hA hAn
                    | some x =>
                    obtain ⟨b, o, rfl, hbo⟩ := ints_at (zs := T k3) (k := .u8) (fun i hi => hAk x hA i hi) hzp
                    rw [hA] at hck'
                    have HBO : Hid (∀ i, i < (T k3).length → w8.cell? ⟨b, o + i, none⟩ = some (.int .u8 (gx (T k3) i))) := fun i hi => by
                      have h := hbo i hi
                      have hlb := World.block_lt_of_cell? _ _ h
                      exact drew_cells HW8.out ((HB8.out.cell (p := ⟨b, o + i, none⟩) (Nat.lt_of_lt_of_le hlb HB.out.size)).trans ((HB.out.cell (p := ⟨b, o + i, none⟩) hlb).trans h))
                    have HGI : Hid (∀ i, i < (T k3).length → w8.cell? ⟨g, i, none⟩ = some (.int .u8 (gx (T k3) i))) := fun i hi =>
                      drew_cells HW8.out ((World.cell?_of_block (w := ww) (a := ⟨g, i, none⟩) (HG8.out.block g (by omega) (by simp; omega))).trans (block_cells hgb i hi))
                    have hg0 := HGI.out 0 hzp
                    clear hbo hAk hA hAn hgb HP
                    clear e2
                    go_quiet (fail)
                    go_wp2
                    obtain ⟨w9, hw9⟩ : ∃ w9, w9 = w8.drewN nq := ⟨_, rfl⟩
                    rw [← hw9]
                    have r0'' := drew_cells hw9 r0'
                    have hck'' := drew_cells hw9 hck'
                    have HW9 : Hid (w9 = w8.drewN nq) := hw9
                    clear hw9 r0 r1 r2 r0' hck' hfc' hck8 hfc8
                    go_quiet ((go_at_call 7; exact Calls.quiet_of (same_any g b o _ _ (T k3) _ (by omega) (fun i hi => by rw [World.cell?_drewN]; exact drew_cells HW9.out (HGI.out i hi)) (fun i hi => by rw [World.cell?_drewN]; exact drew_cells HW9.out (HBO.out i hi)))))
                    go_wp2
                    go_roundw
                    case rel =>
                      obtain ⟨h1, h2, h3⟩ := drew_rel HW8.out HB8.out HL8.out HR8.out
                      obtain ⟨h4, h5, h6⟩ := drew_rel HW9.out h1 h2 h3
                      obtain ⟨h7, h8, h9⟩ := drew_rel rfl h4 h5 h6
                      exact ⟨k3 + 1, _, _, by omega, by go_num, h7, h8, next_rel h9⟩
                    case measure => simp [intOf]; omega
                · go_wp2
                  go_ret
                  exact ⟨rfl, HB.out.trans (HB7.out.mono HB.out.size)⟩
    · have hbigI : (4096 : Int) < (N : Int) := by omega
      go_wp2
      go_ret
      exact ⟨rfl, Below.refl _ _⟩
end Go.Proofs.Qxb6614845aFmt
