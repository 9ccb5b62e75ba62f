/-
  CutBearer.
-/
import Derived.Test.Qxb6601828aDoorWa
import Derived.Test.Qxb6601828aDoorWb
import Derived.Test.Qxb6601828aDoorPl
namespace Go.Proofs.Qxb6601828aDoor
open Go.RowKit

def bearer : ByteArray := ⟨#[66, 101, 97, 114, 101, 114]⟩

theorem Folds.below {w w' : World} {t : ByteArray} (h : Folds w t) (h0 : 0 < w.heap.size) (hb : Below w.heap.size w w') : Folds w' t := by
  intro j hj
  obtain ⟨h1, z, h2, h3, h4⟩ := h j hj
  exact ⟨h1, z, h2, (hb.cell (p := ⟨0, t[j].toNat, none⟩) h0).trans h3, (hb.cell (p := ⟨0, z, none⟩) h0).trans h4⟩

set_option maxHeartbeats 1000000 in
set_option maxRecDepth 100000 in
theorem cutBearer_none (v : ByteArray) (w : World) (h : Lib.indexByte v.data.toList 32 = -1) :
    Calls Tryd.prog 6 #[.string v] w fun e w' => e = .returned (.tuple #[.string v, .bool false]) ∧ Below w.heap.size w w' := by
  have H9 := hide (cut_none v w h)
  clear h
  go_enter Tryd.func6, Tryd.ntmps6
  go_wp2_with fail
  refine H9.out.mono ?_
  rintro e w1 ⟨rfl, hb⟩
  have HB := hide hb
  clear hb
  go_wp2_with fail
  go_ret2
  exact ⟨rfl, HB.out⟩

set_option maxHeartbeats 1000000 in
set_option maxRecDepth 100000 in
theorem cutBearer_some (v : ByteArray) (w : World) (k : Nat) (hv : v.size ≤ 1048576) (h : Lib.indexByte v.data.toList 32 = k) (hf : Folds w bearer) (h0 : 0 < w.heap.size) :
    Calls Tryd.prog 6 #[.string v] w fun e w' => e = .returned (.tuple #[if Lib.equalFold (v.data.toList.take k) bearer.data.toList then .string ⟨(Lib.trimLeftB (v.data.toList.drop (k + 1)) 32).toArray⟩ else .string v, .bool (Lib.equalFold (v.data.toList.take k) bearer.data.toList)]) ∧ Below w.heap.size w w' := by
  have H9 := hide (cut_some v w k (by omega) h)
  have hk := indexByte_lt v.data.toList 32
  rw [h, ← Lib.size_eq] at hk
  have hk' : k < v.size := by omega
  clear h hk
  have HF := hide hf
  clear hf
  have e1 : (v.extract 0 k).data.toList = v.data.toList.take k := by rw [Lib.extract_data]; simp
  have e2 : (v.extract (k + 1) v.size).data.toList = v.data.toList.drop (k + 1) := by rw [Lib.extract_data, List.take_of_length_le (by simp)]
  have h10 := hide (fun wx hw hz => equalFold_any (v.extract 0 k) bearer wx (by simp; omega) (by decide) hw hz)
  have h11 := hide (fun wx => Any.strings_TrimLeft_one Tryd.lays161 (v.extract (k + 1) v.size) 32 (by decide) wx)
  rw [e1] at h10
  rw [e2] at h11
  clear e1 e2
  cases hq : Lib.equalFold (v.data.toList.take k) bearer.data.toList with
  | false =>
    rw [hq] at h10
    have HQ := hide hq
    clear hq
    go_enter Tryd.func6, Tryd.ntmps6
    go_wp2_with fail
    refine H9.out.mono ?_
    rintro e w1 ⟨rfl, hb⟩
    have HB := hide hb
    clear hb
    go_wp2_with fail
    refine (h10.out _ (HF.out.below h0 HB.out) (Nat.lt_of_lt_of_le h0 HB.out.size)).mono ?_
    rintro e w2 ⟨rfl, hb2⟩
    have HB2 := hide hb2
    clear hb2
    go_wp2_with fail
    go_ret2
    exact ⟨rfl, HB.out.trans (HB2.out.mono HB.out.size)⟩
  | true =>
    rw [hq] at h10
    have HQ := hide hq
    clear hq
    go_enter Tryd.func6, Tryd.ntmps6
    go_wp2_with fail
    refine H9.out.mono ?_
    rintro e w1 ⟨rfl, hb⟩
    have HB := hide hb
    clear hb
    go_wp2_with fail
    refine (h10.out _ (HF.out.below h0 HB.out) (Nat.lt_of_lt_of_le h0 HB.out.size)).mono ?_
    rintro e w2 ⟨rfl, hb2⟩
    have HB2 := hide hb2
    clear hb2
    go_wp2_with fail
    refine (h11.out _).mono ?_
    rintro e w3 ⟨rfl, rfl⟩
    go_wp2_with fail
    go_ret2
    exact ⟨rfl, HB.out.trans (HB2.out.mono HB.out.size)⟩

theorem tup {a b : List UInt8} {p q : Bool} (h : a = b) (h2 : p = q) : Ending.returned (.tuple #[.string ⟨a.toArray⟩, .bool p]) = .returned (.tuple #[.string ⟨b.toArray⟩, .bool q]) := by rw [h, h2]

/-- CutBearer. -/
theorem cutBearer_any (v : ByteArray) (w : World) (hv : v.size ≤ 1048576) (hf : Folds w bearer) (h0 : 0 < w.heap.size) :
    Calls Tryd.prog 6 #[.string v] w fun e w' => e = .returned (.tuple #[.string ⟨(Pl.res v.data.toList).toArray⟩, .bool (Pl.okB v.data.toList)]) ∧ Below w.heap.size w w' := by
  have hg := Lib.indexByte_ge v.data.toList 32
  by_cases h : Lib.indexByte v.data.toList 32 = -1
  · refine (cutBearer_none v w h).mono fun e w' ⟨he, hb⟩ => ⟨?_, hb⟩
    rw [he]
    have hn := Pl.ok_none h
    have e1 : Pl.res v.data.toList = v.data.toList := by unfold Pl.res; rw [hn]; rfl
    rw [e1, hn, Lib.mk_data]
  · obtain ⟨k, hk⟩ := Int.eq_ofNat_of_zero_le (show 0 ≤ Lib.indexByte v.data.toList 32 by omega)
    refine (cutBearer_some v w k hv hk hf h0).mono fun e w' ⟨he, hb⟩ => ⟨?_, hb⟩
    rw [he]
    obtain ⟨e1, e2⟩ := Pl.ok_some hk
    have e1' : Lib.equalFold (v.data.toList.take k) bearer.data.toList = Pl.okB v.data.toList := e1
    rw [e1']
    cases hq : Pl.okB v.data.toList with
    | false =>
      have e3 : Pl.res v.data.toList = v.data.toList := by unfold Pl.res; rw [hq]; rfl
      rw [e3, Lib.mk_data]; rfl
    | true =>
      obtain rfl := e2 hq
      have e3 : Pl.res v.data.toList = Lib.trimLeftB (v.data.toList.drop 7) 32 := by unfold Pl.res; rw [hq]; rfl
      rw [e3]; rfl

/-- hdrLowerASCII. -/
def low (c : UInt8) : Int := if 65 ≤ c.toNat ∧ c.toNat ≤ 90 then (c.toNat : Int) + 32 else c.toNat
set_option maxHeartbeats 400000 in
theorem lower_any (c : UInt8) (w : World) : Calls Tryd.prog 12 #[.int .u8 c.toNat] w fun e w' => e = .returned (.int .u8 (low c)) ∧ w' = w := by
  have hc := c.toNat_lt
  by_cases h1 : 65 ≤ c.toNat
  · by_cases h2 : c.toNat ≤ 90
    · go_enter Tryd.func12, Tryd.ntmps12
      go_wp2
      go_ret
      refine ⟨?_, rfl⟩
      unfold low
      rw [if_pos ⟨h1, h2⟩]
      rfl
    · go_enter Tryd.func12, Tryd.ntmps12
      go_wp2
      go_ret
      refine ⟨?_, rfl⟩
      unfold low
      rw [if_neg (by omega)]
      rfl
  · go_enter Tryd.func12, Tryd.ntmps12
    go_wp2
    go_ret
    refine ⟨?_, rfl⟩
    unfold low
    rw [if_neg (by omega)]
    rfl

end Go.Proofs.Qxb6601828aDoor
