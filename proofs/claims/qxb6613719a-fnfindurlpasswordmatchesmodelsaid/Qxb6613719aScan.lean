/- 'scan' and 'findURLPassword'. -/
import Derived.Test.Qxb6613719aAt
import Derived.Shelf.Bytes.SlIndexAt
namespace Go.Proofs.Qxb6613719a
open Go.RowKit
set_option linter.unusedVariables false

def slashB (c : Int) : Bool := c != 47
/-- The first slash, or -1. -/
def idxI (zs : List Int) : Int := if runL slashB zs = zs.length then -1 else (runL slashB zs : Nat)

theorem indexByte_idxI : ∀ {zs : List Int}, ByteL zs → Lib.indexByte (Lib.bytesOf zs) (47 : Int).toNat.toUInt8 = idxI zs
  | [], _ => by simp [idxI, runL, Lib.bytesOf, Lib.indexByte]
  | x :: zs, h => by
    have ih := indexByte_idxI (zs := zs) (fun k hk => h (k + 1) (by simpa using hk))
    have h0 := h 0 (by simp)
    rw [gx_cons_zero] at h0
    have e47 : (47 : Int).toNat.toUInt8 = 47 := by decide
    have hx : (UInt8.ofNat x.toNat == (47 : Int).toNat.toUInt8) = (x == 47) := by
      rw [Bool.eq_iff_iff, beq_iff_eq, beq_iff_eq]
      constructor
      · intro h
        have := congrArg UInt8.toNat h
        rw [e47] at this
        simp only [UInt8.toNat_ofNat'] at this
        have e : (47 : UInt8).toNat = 47 := rfl
        rw [e] at this
        omega
      · intro h; subst h; rfl
    have hle := runL_le slashB zs
    show (if (UInt8.ofNat x.toNat == (47 : Int).toNat.toUInt8) = true then (0 : Int) else if (Lib.indexByte (Lib.bytesOf zs) (47 : Int).toNat.toUInt8 == -1) = true then -1 else Lib.indexByte (Lib.bytesOf zs) (47 : Int).toNat.toUInt8 + 1) = _
    rw [hx, ih]
    by_cases h47 : x = 47
    · simp [h47, idxI, runL, slashB]
    · have hs : slashB x = true := by simp [slashB, h47]
      have hb : (x == 47) = false := by simp [h47]
      simp only [hb, Bool.false_eq_true, if_false, idxI, runL, hs, if_true, List.length_cons]
      by_cases hr : runL slashB zs = zs.length
      · simp [hr]
      · have h2 : ¬ runL slashB zs + 1 = zs.length + 1 := by omega
        have h3 : ¬ ((runL slashB zs : Nat) : Int) = -1 := by omega
        simp [hr, h3]

theorem idx_any {B : Nat} {v : Value} {zs : List Int} {w : World} (hv : Sl B w v zs) (hby : ByteL zs) :
    Calls Try.prog 44 #[v, .int .u8 47] w fun e w' => e = .returned (.int .i64 (idxI zs)) ∧ w' = w := by
  obtain ⟨b, o, c, hb, hc, rfl, hcell⟩ := hv
  have hx := Lib.run_indexByteAt (P := Try.prog) w ⟨b, o, none⟩ zs.length c zs rfl (fun i hi => by rw [Addr.add_lit]; exact hcell i hi) 47
  go_enter Try.func44, Try.ntmps44
  go_wp2
  rw [run_callFunc_extern Try.func50 (by kernel_rfl) (by kernel_rfl) (by kernel_rfl) (e := Extern.BytealgIndexByte.indexByte) (by kernel_rfl), hx]
  simp only [Result.andThen]
  rw [Oper.upon_value]
  go_wp2
  go_ret
  exact ⟨retI (indexByte_idxI hby), rfl⟩

/-- The search from place a on. -/
def searchL (zs : List Int) (a : Nat) : Option Nat := findL zs (zs.length - 2 - a) a

theorem searchL_end {zs : List Int} {a : Nat} (h : zs.length < a + 3) : searchL zs a = none := by
  unfold searchL
  rw [show zs.length - 2 - a = 0 by omega]
  rfl
theorem searchL_hit {zs : List Int} {a : Nat} (h : a + 3 ≤ zs.length) (h1 : anchorL zs a = true) (h2 : hitL zs a = true) : searchL zs a = some a := by
  unfold searchL
  rw [show zs.length - 2 - a = (zs.length - 2 - (a + 1)) + 1 by omega]
  simp [findL, h1, h2]
theorem searchL_next {zs : List Int} {a : Nat} (h : a + 3 ≤ zs.length) (h1 : (anchorL zs a && hitL zs a) = false) : searchL zs a = searchL zs (a + 1) := by
  unfold searchL
  rw [show zs.length - 2 - a = (zs.length - 2 - (a + 1)) + 1 by omega]
  simp [findL, h1]
theorem anchorL_slash {zs : List Int} {a : Nat} (h : (gx zs (a + 1) == 47) = false) : anchorL zs a = false := by simp [anchorL, h]
theorem searchL_skip {zs : List Int} : ∀ (n a : Nat), a + n + 2 ≤ zs.length → (∀ k, k < n → (gx zs (a + 1 + k) == 47) = false) → searchL zs a = searchL zs (a + n)
  | 0, a, _, _ => rfl
  | n + 1, a, h, hk => by
    rw [searchL_next (by omega) (by rw [anchorL_slash (hk 0 (by omega))]; rfl), searchL_skip n (a + 1) (by omega) (fun k h' => by have := hk (k + 1) (by omega); rwa [show a + 1 + (k + 1) = a + 1 + 1 + k by omega] at this), show a + 1 + n = a + (n + 1) by omega]

theorem slash_mid {zs : List Int} {a k : Nat} (h : slashB (gx (midL zs (a + 1) (zs.length - 1)) k) = true) (hk : k < zs.length - 1 - (a + 1)) : (gx zs (a + 1 + k) == 47) = false := by
  rw [midL, gx_take _ _ _ hk, gx_drop] at h
  simpa [slashB, bne] using h

/-- What the index says of the search. -/
theorem search_none {zs : List Int} {a : Nat} (h : a + 3 ≤ zs.length) (hr : runL slashB (midL zs (a + 1) (zs.length - 1)) = (midL zs (a + 1) (zs.length - 1)).length) : searchL zs a = none := by
  have hl : (midL zs (a + 1) (zs.length - 1)).length = zs.length - 1 - (a + 1) := by simp [midL]; omega
  rw [searchL_skip (zs.length - 2 - a) a (by omega) (fun k hk => slash_mid (runL_before slashB _ k (by omega)) (by omega))]
  exact searchL_end (by omega)
theorem search_some {zs : List Int} {a n : Nat} (h : a + 3 ≤ zs.length) (hn : runL slashB (midL zs (a + 1) (zs.length - 1)) = n) (hr : n < (midL zs (a + 1) (zs.length - 1)).length) : a + n + 3 ≤ zs.length ∧ searchL zs a = searchL zs (a + n) := by
  have hl : (midL zs (a + 1) (zs.length - 1)).length = zs.length - 1 - (a + 1) := by simp [midL]; omega
  refine ⟨by omega, searchL_skip n a (by omega) fun k hk => slash_mid (runL_before slashB _ k (by omega)) (by omega)⟩

/-- The three bytes at a are the anchor. -/
theorem anchor_mid {zs : List Int} {a : Nat} (h : a + 3 ≤ zs.length) (hby : ByteL zs) : ((strOfNums (midL zs a (a + 3))).toList == [58, 47, 47]) = anchorL zs a := by
  have hl : (midL zs a (a + 3)).length = 3 := by simp [midL]; omega
  have e : midL zs a (a + 3) = [gx zs a, gx zs (a + 1), gx zs (a + 2)] := by
    apply gx_ext hl
    intro k hk
    rw [midL, gx_take _ _ _ (by omega), gx_drop]
    match k, (show k < 3 by omega) with
    | 0, _ => rfl
    | 1, _ => rfl
    | 2, _ => rfl
  have hb1 := hby a (by omega)
  have hb2 := hby (a + 1) (by omega)
  have hb3 := hby (a + 2) (by omega)
  have h58 : ByteL [58, 47, 47] := by
    intro k hk
    match k, hk with
    | 0, _ | 1, _ | 2, _ => simp [gx]
    | k + 3, hk => simp at hk; omega
  have hmb : ByteL (midL zs a (a + 3)) := (hby.drop _).take _
  have hq := nums_beq hmb h58
  have hs : (strOfNums [58, 47, 47]).toList = [58, 47, 47] := by rw [ByteArray.toList_eq]; rfl
  rw [hs] at hq
  rw [hq, e]
  rw [Bool.eq_iff_iff]
  simp [anchorL, and_assoc]
end Go.Proofs.Qxb6613719a
