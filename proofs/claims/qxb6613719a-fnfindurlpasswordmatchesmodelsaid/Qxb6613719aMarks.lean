/- 'bytes.Equal', 'bytes.HasPrefix', 'markerLen', 'isMarkers'. -/
import Derived.Test.Qxb6613719aFolds
import Derived.Laws.BytesArg
import Derived.Lib.SlBytesConst
namespace Go.Proofs.Qxb6613719a
open Go.RowKit
set_option linter.unusedVariables false

def ByteL (zs : List Int) : Prop := ∀ k, k < zs.length → 0 ≤ gx zs k ∧ gx zs k ≤ 255

theorem ByteL.drop {zs : List Int} (h : ByteL zs) (n : Nat) : ByteL (zs.drop n) := fun k hk => by
  rw [gx_drop]; exact h _ (by simp at hk; omega)
theorem ByteL.take {zs : List Int} (h : ByteL zs) (n : Nat) : ByteL (zs.take n) := fun k hk => by
  simp at hk
  rw [gx_take _ _ _ (by omega)]; exact h _ (by omega)

theorem nums_inj : ∀ {xs ys : List Int}, ByteL xs → ByteL ys → (xs.map fun n => UInt8.ofNat n.toNat) = (ys.map fun n => UInt8.ofNat n.toNat) → xs = ys
  | [], [], _, _, _ => rfl
  | [], _ :: _, _, _, h => by simp at h
  | _ :: _, [], _, _, h => by simp at h
  | x :: xs, y :: ys, hx, hy, h => by
    simp only [List.map_cons, List.cons.injEq] at h
    have h1 := hx 0 (by simp)
    have h2 := hy 0 (by simp)
    rw [gx_cons_zero] at h1 h2
    have e := congrArg UInt8.toNat h.1
    simp only [UInt8.toNat_ofNat'] at e
    have e2 : x = y := by omega
    rw [e2, nums_inj (fun k hk => hx (k + 1) (by simpa using hk)) (fun k hk => hy (k + 1) (by simpa using hk)) h.2]

theorem nums_beq {xs ys : List Int} (hx : ByteL xs) (hy : ByteL ys) : ((strOfNums xs).toList == (strOfNums ys).toList) = (xs == ys) := by
  rw [Bool.eq_iff_iff, beq_iff_eq, beq_iff_eq, ByteArray.toList_eq, ByteArray.toList_eq, strOfNums_data, strOfNums_data]
  exact ⟨nums_inj hx hy, fun h => by rw [h]⟩

theorem equal_any {B1 B2 : Nat} {v1 v2 : Value} {xs ys : List Int} {w : World} (h1 : Sl B1 w v1 xs) (h2 : Sl B2 w v2 ys) (hx : ByteL xs) (hy : ByteL ys) :
    Calls Try.prog 58 #[v1, v2] w fun e w' => e = .returned (.bool (xs == ys)) ∧ w' = w := by
  obtain ⟨b1, o1, c1, hb1, hc1, rfl, hcell1⟩ := h1
  obtain ⟨b2, o2, c2, hb2, hc2, rfl, hcell2⟩ := h2
  have k1 := run_convert_bytes_arg (P := Try.prog) w 22 5 Try.underlying22 Try.underlying5 b1 o1 xs.length c1 xs rfl hcell1 9 Try.underlying9
  have k2 := run_convert_bytes_arg (P := Try.prog) w 22 5 Try.underlying22 Try.underlying5 b2 o2 ys.length c2 ys rfl hcell2 9 Try.underlying9
  clear hcell1 hcell2
  go_enter Try.func58, Try.ntmps58
  go_wp2
  go_ret
  exact ⟨retB (nums_beq hx hy), rfl⟩

/-- 's[:m]' of a slice that holds m bytes or more. -/
theorem Sl.head {B : Nat} {w : World} {b o c : Nat} {zs : List Int} (hb : b < B) (hc : zs.length ≤ c) (hcell : ∀ i, i < zs.length → w.cell? ⟨b, o + i, none⟩ = some (.int .u8 (gx zs i))) (m : Nat) (hm : m ≤ zs.length) :
    Sl B w (.slice (some ⟨b, o, none⟩) m c) (zs.take m) := by
  have hl : (zs.take m).length = m := by simp; omega
  exact ⟨b, o, c, hb, by omega, by rw [hl], fun i hi => by rw [gx_take _ _ _ (by omega)]; exact hcell i (by omega)⟩

theorem hasPrefix_ten {B1 B2 : Nat} {v1 v2 : Value} {zs ys : List Int} {w : World} (h1 : Sl B1 w v1 zs) (h2 : Sl B2 w v2 ys) (hx : ByteL zs) (hy : ByteL ys) (hl : zs.length < 4194304) (hten : ys.length = 10) :
    Calls Try.prog 54 #[v1, v2] w fun e w' => e = .returned (.bool (zs.take 10 == ys)) ∧ w' = w := by
  have hv2 := h2
  obtain ⟨b1, o1, c1, hb1, hc1, rfl, hcell1⟩ := h1
  obtain ⟨b2, o2, c2, hb2, hc2, rfl, hcell2⟩ := h2
  rw [hten] at hv2 hc2 ⊢
  clear hcell2
  by_cases h10 : 10 ≤ zs.length
  · have hv1 := Sl.head hb1 hc1 hcell1 10 h10
    have hcall := equal_any hv1 hv2 (hx.take 10) hy
    clear hcell1 hv1 hv2
    have hc10 : 10 ≤ c1 := by omega
    go_enter Try.func54, Try.ntmps54
    go_wp2_with (fail)
    refine calls_same hcall ?_
    go_wp2
    go_ret
    exact ⟨rfl, rfl⟩
  · clear hcell1 hv2
    go_enter Try.func54, Try.ntmps54
    go_wp2
    go_ret
    refine ⟨retB ?_, rfl⟩
    symm
    rw [Bool.eq_false_iff]
    intro h
    rw [beq_iff_eq] at h
    have := congrArg List.length h
    simp [hten] at this
    omega

/-- What 's[lo:]' hands back, under one name. -/
def tailV (b o n c lo : Nat) : Value := .slice (some ⟨b, if c = lo then o else o + lo, none⟩) (n - lo) (c - lo)

theorem sizeU8 (w : World) : (Go.sizeOf 5).run Try.prog w = .ok 1 w := by rfl

theorem slice_from (b o n c lo : Nat) (hlo : lo ≤ n) (hn : n ≤ c) (W : World) :
    (Instr.slice 22 (.slice (some ⟨b, o, none⟩) n c) (some (.int .i64 (lo : Int))) none none).run Try.prog W = .ok (tailV b o n c lo) W := by
  have ht : Try.prog.underlying 22 = some (.slice (Try.prog.elem 22)) := by simp [Program.elem, Try.underlying22]
  have he : Try.prog.elem 22 = 5 := by simp [Program.elem, Try.underlying22]
  rw [run_slice_l W 22 _ _ _ ht .i64 _ (by omega) (by omega), he, sizeU8]
  by_cases h : c = lo
  · simp [Result.andThen, sliced, tailV, h]
  · simp [Result.andThen, sliced, tailV, h, Addr.add]

theorem Sl.tail {B : Nat} {w : World} {b o c : Nat} {zs : List Int} (hb : b < B) (hc : zs.length ≤ c) (hcell : ∀ i, i < zs.length → w.cell? ⟨b, o + i, none⟩ = some (.int .u8 (gx zs i))) (lo : Nat) (hlo : lo ≤ zs.length) :
    Sl B w (tailV b o zs.length c lo) (zs.drop lo) := by
  have hl : (zs.drop lo).length = zs.length - lo := by simp
  refine ⟨b, if c = lo then o else o + lo, c - lo, hb, by omega, by rw [hl]; rfl, fun i hi => ?_⟩
  rw [if_neg (by omega), gx_drop, Nat.add_assoc]
  exact hcell (lo + i) (by omega)
end Go.Proofs.Qxb6613719a
