import Derived.Test.YtfkecmlmnhbmoaaGreatDoorProg
import Derived.WalkKit
import Derived.WalkSpells
import Derived.WalkLawsBesides
import Derived.Lib.Hide
namespace Go.Proofs.YtfkecmlmnhbmoaaGreatDoor
open Go.RowKit
/-- j opening brackets and k closing ones. -/
def Br (j k : Nat) : ByteArray := ⟨((List.replicate j 91 : List UInt8) ++ (List.replicate k 93 : List UInt8)).toArray⟩
theorem Br_size (j k : Nat) : (Br j k).size = j + k := by
  unfold Br; show Array.size _ = _; simp
theorem Br_toList (j k : Nat) : (Br j k).data.toList = (List.replicate j 91 : List UInt8) ++ (List.replicate k 93 : List UInt8) := by simp [Br]
theorem ba_ext {a b : ByteArray} (h : a.data.toList = b.data.toList) : a = b := by
  cases a; cases b; congr 1; exact Array.toList_inj.1 h
theorem Br_tail (j k : Nat) : (Br (j + 1) k).extract 1 (Br (j + 1) k).size = Br j k := by
  apply ba_ext
  rw [ByteArray.data_extract, Br_toList]
  simp [Br_toList, Br_size, List.replicate_succ]
  rw [List.take_of_length_le (by simp)]
theorem Br_tail0 (k : Nat) : (Br 0 (k + 1)).extract 1 (Br 0 (k + 1)).size = Br 0 k := by
  apply ba_ext
  rw [ByteArray.data_extract, Br_toList]
  simp [Br_toList, Br_size, List.replicate_succ]
theorem Br_zero : Br 0 0 = ⟨#[]⟩ := rfl
theorem Br_head (j k : Nat) : ((Br (j + 1) k).extract 0 1).toList = [91] := by
  rw [ByteArray.toList_eq]
  rw [ByteArray.data_extract]
  simp [Br_toList, List.replicate_succ]
theorem Br_head0 (k : Nat) : ((Br 0 (k + 1)).extract 0 1).toList = [93] := by
  rw [ByteArray.toList_eq]
  rw [ByteArray.data_extract]
  simp [Br_toList, List.replicate_succ]
theorem Br_first (j k : Nat) (h : 0 < (Br (j + 1) k).size) : (Br (j + 1) k)[0]'h = 91 := by
  show (Br (j + 1) k).data[0] = 91
  simp [Br, List.replicate_succ]
theorem Br_first0 (k : Nat) (h : 0 < (Br 0 (k + 1)).size) : (Br 0 (k + 1))[0]'h = 93 := by
  show (Br 0 (k + 1)).data[0] = 93
  simp [Br, List.replicate_succ]
end Go.Proofs.YtfkecmlmnhbmoaaGreatDoor
