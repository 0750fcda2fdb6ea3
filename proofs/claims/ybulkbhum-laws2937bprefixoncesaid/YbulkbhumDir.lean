/-
  The contract of 'asDirectory' (function 5), in two cases, and what the two laws want of byte strings.
-/
import Derived.Test.YbulkbhumRows
import Derived.WalkKit
import Derived.ProofKit
import Derived.OpenShut
import Derived.ShutString
namespace Go.Proofs.Ybulkbhum
open Go.ChangeShapes Go.WideShapes Go.ChangeAt Go.RowKit

theorem dir_none (a0 : ByteArray) (h : a0.toList.isEmpty = true) (w : World) :
    Calls Yba.prog 5 #[.string a0] w fun e w' => e = .returned (.string a0) ∧ w' = w := by
  go_enter Yba.func5, Yba.ntmps5
  go_wp2
  go_ret
  exact ⟨rfl, rfl⟩

theorem dir_some (a0 : ByteArray) (h : a0.toList.isEmpty = false) (hs : a0.size ≤ 1048576) (w : World) :
    Calls Yba.prog 5 #[.string a0] w fun e w' => e = .returned (.string (a0 ++ ⟨#[47, 46]⟩)) ∧ w' = w := by
  go_enter Yba.func5, Yba.ntmps5
  go_wp2
  go_ret
  exact ⟨rfl, rfl⟩

theorem empty_of (a0 : ByteArray) (h : a0.toList.isEmpty = true) : a0 = ByteArray.empty := by
  rw [ByteArray.toList_eq, List.isEmpty_iff] at h
  have : a0.data = #[] := by simpa using h
  cases a0; simp_all; rfl

theorem size_of (a0 : ByteArray) (h : a0.toList.isEmpty = false) : 0 < a0.size := by
  rw [ByteArray.toList_eq] at h
  rw [← ByteArray.size_data]
  rcases Nat.eq_zero_or_pos a0.data.size with hz | hz
  · rw [Array.eq_empty_of_size_eq_zero hz] at h; simp at h
  · exact hz

theorem cut_left (a b : ByteArray) : ((a ++ b).extract 0 a.size).toList = a.toList := by
  rw [ByteArray.extract_append_eq_left rfl]

theorem cut_right (a b : ByteArray) (n : Nat) (h : n = a.size + b.size) : ((a ++ b).extract a.size n).toList = b.toList := by
  rw [ByteArray.extract_append_eq_right rfl h]

theorem at_left (a b : ByteArray) (k : Nat) (h : k < a.size) (h' : k < (a ++ b).size) : (a ++ b)[k] = a[k] :=
  ByteArray.getElem_append_left h

theorem at_slash (a : ByteArray) (h : a.size < (a ++ ⟨#[47, 46]⟩).size) : (a ++ ⟨#[47, 46]⟩)[a.size].toNat = 47 := by
  rw [ByteArray.getElem_append_right (Nat.le_refl _)]
  simp only [Nat.sub_self]; rfl

theorem at_dot (a : ByteArray) (h : a.size + 1 < (a ++ ⟨#[47, 46]⟩).size) : (a ++ ⟨#[47, 46]⟩)[a.size + 1].toNat = 46 := by
  rw [ByteArray.getElem_append_right (Nat.le_succ _)]
  have e : a.size + 1 - a.size = 1 := by omega
  simp only [e]; rfl

theorem tail_said : ((⟨#[47, 46]⟩ : ByteArray).toList == [47, 46]) = true := by
  rw [ByteArray.toList_eq]; rfl
end Go.Proofs.Ybulkbhum
