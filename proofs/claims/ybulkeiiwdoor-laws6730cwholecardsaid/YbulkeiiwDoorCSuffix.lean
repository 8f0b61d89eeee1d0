import Derived.Test.YbulkeiiwDoorCSpan
namespace Go.Proofs.YbulkeiiwDoor
open Go.RowKit

theorem suffix_one (l : List UInt8) (c : UInt8) : [c].isSuffixOf l = (l.getLast? == some c) := by
  rw [Bool.eq_iff_iff]
  simp only [List.isSuffixOf_iff_suffix, beq_iff_eq]
  constructor
  · rintro ⟨t, rfl⟩; simp
  · intro h
    obtain ⟨t, rfl⟩ := List.getLast?_eq_some_iff.1 h
    exact ⟨t, rfl⟩
theorem isP_zero (nm : ByteArray) (h : nm.size = 0) : isP nm = false := by
  unfold isP Lib.hasSuffix
  rw [suffix_one]
  have : nm.data.toList = [] := by
    have : nm.data.toList.length = 0 := by simpa using h
    exact List.length_eq_zero_iff.1 this
  rw [this]; rfl
theorem isP_pos (nm : ByteArray) (h : 0 < nm.size) : isP nm = (((nm[nm.size - 1]'(by omega)).toNat : Int) == 43) := by
  unfold isP Lib.hasSuffix
  rw [suffix_one, List.getLast?_eq_getElem?]
  have e1 : nm.data.toList.length = nm.size := by simp
  have e2 : nm.data.toList[nm.data.toList.length - 1]? = some (nm[nm.size - 1]'(by omega)) := by
    rw [List.getElem?_eq_getElem (by omega)]
    simp [e1]
    rfl
  rw [e2, Bool.eq_iff_iff]
  simp only [beq_iff_eq, Option.some.injEq]
  constructor
  · intro h; rw [h]; rfl
  · intro h
    have : (nm[nm.size - 1]'(by omega)).toNat = 43 := by omega
    exact UInt8.toNat_inj.1 this
theorem pf_no (nm : ByteArray) (h : isP nm = false) : pf nm = nm := by
  unfold pf Lib.trimSuffix
  unfold isP at h
  rw [h]; simp
theorem pf_yes (nm : ByteArray) (h : isP nm = true) : pf nm = nm.extract 0 (nm.size - 1) := by
  unfold pf Lib.trimSuffix
  unfold isP at h
  rw [h]
  simp only [if_true]
  apply ByteArray.ext
  apply Array.ext'
  simp [ByteArray.data_extract, List.dropLast_eq_take]
/-- 'x begins with p', as the law says it. -/
theorem hpB_long (p x : ByteArray) : hpB p x = ((x.extract 0 p.size).toList == p.toList) := by
  unfold hpB
  rw [Lib.toList_data, Lib.toList_data, Bool.eq_iff_iff, List.isPrefixOf_iff_prefix, beq_iff_eq]
  have e : (x.extract 0 p.size).data.toList = x.data.toList.take p.data.toList.length := by simp [ByteArray.data_extract]
  rw [e, List.prefix_iff_eq_take]
  exact ⟨fun h => h.symm, fun h => h.symm⟩
theorem hpB_short (p x : ByteArray) (h : x.size < p.size) : hpB p x = false := by
  unfold hpB
  cases hq : p.data.toList.isPrefixOf x.data.toList with
  | false => rfl
  | true =>
    rw [List.isPrefixOf_iff_prefix] at hq
    have := hq.length_le
    simp at this
    omega
end Go.Proofs.YbulkeiiwDoor
