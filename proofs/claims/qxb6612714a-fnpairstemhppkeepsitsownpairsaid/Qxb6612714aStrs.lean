import Derived.Test.Qxb6612714aRows
import Derived.WalkKit
import Derived.WalkSpells
import Derived.WalkLawsBesides
import Derived.Outline
import Derived.RowKit3
import Derived.Lib.Walk
import Derived.Lib.Strings
import Derived.Lib.Slices
import Derived.Laws.Strings3
namespace Go.Proofs.Qxb6612714a
open Go.RowKit Go.Lib

set_option maxHeartbeats 1000000 in
theorem hasPrefix_any (s p : ByteArray) (w : World) :
    Calls Try.prog 17 #[.string s, .string p] w fun e w' => e = .returned (.bool (Lib.hasPrefix s.data.toList p.data.toList)) ∧ w' = w := by
  rw [← Lib.hasPrefix_of_take, ← Lib.size_eq, ← Lib.size_eq]
  go_enter Try.func17, Try.ntmps17
  go_wp2
  · rename_i h
    go_ret
    refine ⟨?_, rfl⟩
    show Ending.returned (Value.bool ((s.extract 0 p.size).toList == p.toList)) = _
    rw [Lib.extract_toList, Lib.toList_data]
    simp [h]
  · rename_i h
    go_ret
    refine ⟨?_, rfl⟩
    show Ending.returned (Value.bool false) = _
    simp [h]

set_option maxHeartbeats 1000000 in
theorem hasSuffix_any (s p : ByteArray) (w : World) (hs : s.size ≤ 9223372036854775807) :
    Calls Try.prog 15 #[.string s, .string p] w fun e w' => e = .returned (.bool (Lib.hasSuffix s.data.toList p.data.toList)) ∧ w' = w := by
  rw [← Lib.hasSuffix_raw]
  have hlo : p.size ≤ s.size → ((s.size : Int) - (p.size : Int) + 9223372036854775808) % 18446744073709551616 - 9223372036854775808 = ((s.size - p.size : Nat) : Int) := fun _ => by omega
  go_enter Try.func15, Try.ntmps15
  go_wp2
  · have h : p.size ≤ s.size := by assumption
    go_ret
    refine ⟨?_, rfl⟩
    show Ending.returned (Value.bool ((s.extract (s.size - p.size) s.size).toList == p.toList)) = _
    simp [h]
  · have h : ¬ p.size ≤ s.size := by assumption
    go_ret
    refine ⟨?_, rfl⟩
    show Ending.returned (Value.bool false) = _
    simp [h]

set_option maxHeartbeats 1000000 in
theorem cutPrefix0_any (s p : ByteArray) (w : World) :
    Calls Try.prog 16 #[.string s, .string p] w fun e w' => e = .returned (.tuple #[.string ⟨(Lib.trimPrefix s.data.toList p.data.toList).toArray⟩, .bool (Lib.hasPrefix s.data.toList p.data.toList)]) ∧ w' = w := by
  by_cases h1 : p.size ≤ s.size
  · cases h2 : ((s.extract 0 p.size).toList == p.toList)
    · have hh : Lib.hasPrefix s.data.toList p.data.toList = false := by rw [← Lib.hasPrefix_raw, h2]; simp
      go_enter Try.func16, Try.ntmps16
      go_wp2_with (go_at_call 17; refine (hasPrefix_any _ _ _).mono ?_; rintro e w' ⟨rfl, hw⟩; rw [hw, hh])
      go_ret2
      refine ⟨?_, rfl⟩
      rw [Lib.trimPrefix_miss s p (by rw [h2]; simp), hh]
      rfl
    · have hh : Lib.hasPrefix s.data.toList p.data.toList = true := by rw [← Lib.hasPrefix_raw, h2]; simp [h1]
      go_enter Try.func16, Try.ntmps16
      go_wp2_with (go_at_call 17; refine (hasPrefix_any _ _ _).mono ?_; rintro e w' ⟨rfl, hw⟩; rw [hw, hh])
      go_ret2
      refine ⟨?_, rfl⟩
      rw [Lib.trimPrefix_hit s p h1 h2, hh]
      rfl
  · have hh : Lib.hasPrefix s.data.toList p.data.toList = false := by rw [← Lib.hasPrefix_raw]; simp [h1]
    go_enter Try.func16, Try.ntmps16
    go_wp2_with (go_at_call 17; refine (hasPrefix_any _ _ _).mono ?_; rintro e w' ⟨rfl, hw⟩; rw [hw, hh])
    go_ret2
    refine ⟨?_, rfl⟩
    rw [Lib.trimPrefix_miss s p (by simp [h1]), hh]
    rfl

set_option maxHeartbeats 1000000 in
theorem cutPrefix_any (s p : ByteArray) (w : World) :
    Calls Try.prog 14 #[.string s, .string p] w fun e w' => e = .returned (.tuple #[.string ⟨(Lib.trimPrefix s.data.toList p.data.toList).toArray⟩, .bool (Lib.hasPrefix s.data.toList p.data.toList)]) ∧ w' = w := by
  go_enter Try.func14, Try.ntmps14
  go_wp2_with (go_at_call 16; refine (cutPrefix0_any _ _ _).mono ?_; rintro e w' ⟨rfl, hw⟩; rw [hw])
  go_ret2
  exact ⟨rfl, rfl⟩

set_option maxHeartbeats 1000000 in
theorem trimSuffix0_any (s p : ByteArray) (w : World) (hs : s.size ≤ 9223372036854775807) :
    Calls Try.prog 13 #[.string s, .string p] w fun e w' => e = .returned (.string ⟨(Lib.trimSuffix s.data.toList p.data.toList).toArray⟩) ∧ w' = w := by
  by_cases h1 : p.size ≤ s.size
  · cases h2 : ((s.extract (s.size - p.size) s.size).toList == p.toList)
    · have hh : Lib.hasSuffix s.data.toList p.data.toList = false := by rw [← Lib.hasSuffix_raw, h2]; simp
      go_enter Try.func13, Try.ntmps13
      go_wp2_with (go_at_call 15; refine (hasSuffix_any _ _ _ hs).mono ?_; rintro e w' ⟨rfl, hw⟩; rw [hw, hh])
      go_ret
      refine ⟨?_, rfl⟩
      rw [Lib.trimSuffix_miss s p (by rw [h2]; simp)]
      rfl
    · have hh : Lib.hasSuffix s.data.toList p.data.toList = true := by rw [← Lib.hasSuffix_raw, h2]; simp [h1]
      go_enter Try.func13, Try.ntmps13
      go_wp2_with (go_at_call 15; refine (hasSuffix_any _ _ _ hs).mono ?_; rintro e w' ⟨rfl, hw⟩; rw [hw, hh])
      go_ret
      refine ⟨?_, rfl⟩
      rw [Lib.trimSuffix_hit s p h1 h2]
      rfl
  · have hh : Lib.hasSuffix s.data.toList p.data.toList = false := by rw [← Lib.hasSuffix_raw]; simp [h1]
    go_enter Try.func13, Try.ntmps13
    go_wp2_with (go_at_call 15; refine (hasSuffix_any _ _ _ hs).mono ?_; rintro e w' ⟨rfl, hw⟩; rw [hw, hh])
    go_ret
    refine ⟨?_, rfl⟩
    rw [Lib.trimSuffix_miss s p (by simp [h1])]
    rfl

set_option maxHeartbeats 1000000 in
theorem trimSuffix_any (s p : ByteArray) (w : World) (hs : s.size ≤ 9223372036854775807) :
    Calls Try.prog 11 #[.string s, .string p] w fun e w' => e = .returned (.string ⟨(Lib.trimSuffix s.data.toList p.data.toList).toArray⟩) ∧ w' = w := by
  go_enter Try.func11, Try.ntmps11
  go_wp2_with (go_at_call 13; refine (trimSuffix0_any _ _ _ hs).mono ?_; rintro e w' ⟨rfl, hw⟩; rw [hw])
  go_ret
  exact ⟨rfl, rfl⟩

theorem data_app (a b : ByteArray) : (a ++ b).data.toList = a.data.toList ++ b.data.toList := by
  rw [ByteArray.data_append, Array.toList_append]

set_option maxHeartbeats 1000000 in
theorem headerName_any (m s : ByteArray) (w : World) (hm : m.size ≤ 1048576) :
    Calls Try.prog 12 #[.string m, .string s] w fun e w' => e = .returned (.string ⟨(Lib.trimPrefix s.data.toList (m.data.toList ++ [47])).toArray⟩) ∧ w' = w := by
  have hd : (m ++ { data := #[47] } : ByteArray).data.toList = m.data.toList ++ [47] := data_app _ _
  rw [← hd]
  clear hd
  go_enter Try.func12, Try.ntmps12
  go_wp2_with (go_at_call 14; refine (cutPrefix_any _ _ _).mono ?_; rintro e w' ⟨rfl, hw⟩; rw [hw])
  go_ret
  exact ⟨rfl, rfl⟩

/-- What 'pairStem' computes. -/
def stem (m s : List UInt8) : List UInt8 := Lib.trimSuffix (Lib.trimPrefix s (m ++ [47])) [46, 104]

set_option maxHeartbeats 1000000 in
theorem pairStem_any (m s : ByteArray) (w : World) (hm : m.size ≤ 1048576) (hs : s.size ≤ 9223372036854775807) :
    Calls Try.prog 9 #[.string m, .string s] w fun e w' => e = .returned (.string ⟨(stem m.data.toList s.data.toList).toArray⟩) ∧ w' = w := by
  have hle := Lib.trimPrefix_le s.data.toList (m.data.toList ++ [47])
  rw [← Lib.size_eq] at hle
  have hz : (⟨(Lib.trimPrefix s.data.toList (m.data.toList ++ [47])).toArray⟩ : ByteArray).size ≤ 9223372036854775807 := by
    show (Lib.trimPrefix s.data.toList (m.data.toList ++ [47])).toArray.size ≤ _
    rw [List.size_toArray]; omega
  unfold stem
  generalize ht : Lib.trimPrefix s.data.toList (m.data.toList ++ [47]) = t at *
  have HT : Hid (Lib.trimPrefix s.data.toList (m.data.toList ++ [47]) = t) := ht
  clear ht
  go_enter Try.func9, Try.ntmps9
  go_wp2_with (first
    | (go_at_call 12; refine (headerName_any _ _ _ hm).mono ?_; rintro e w' ⟨rfl, hw⟩; rw [hw, HT.out])
    | (go_at_call 11; refine (trimSuffix_any _ _ _ hz).mono ?_; rintro e w' ⟨rfl, hw⟩; rw [hw]))
  go_ret
  exact ⟨rfl, rfl⟩

set_option maxHeartbeats 1000000 in
theorem zzPairStem_any (m s : ByteArray) (w : World) (hm : m.size ≤ 1048576) (hs : s.size ≤ 9223372036854775807) :
    Calls Try.prog 6 #[.string m, .string s] w fun e w' => e = .returned (.string ⟨(stem m.data.toList s.data.toList).toArray⟩) ∧ w' = w := by
  go_enter Try.func6, Try.ntmps6
  go_wp2_with (go_at_call 9; refine (pairStem_any _ _ _ hm hs).mono ?_; rintro e w' ⟨rfl, hw⟩; rw [hw])
  go_ret
  exact ⟨rfl, rfl⟩

/-! ### The plain law -/
theorem trimPrefix_app (p s : List UInt8) : Lib.trimPrefix (p ++ s) p = s := by
  unfold Lib.trimPrefix Lib.hasPrefix
  rw [if_pos (by rw [List.isPrefixOf_iff_prefix]; exact List.prefix_append _ _), List.drop_left]
theorem trimSuffix_app (p s : List UInt8) : Lib.trimSuffix (s ++ p) p = s := by
  unfold Lib.trimSuffix Lib.hasSuffix
  rw [if_pos (by rw [List.isSuffixOf_iff_suffix]; exact List.suffix_append _ _), List.length_append, Nat.add_sub_cancel, List.take_left]
theorem stem_folder (m n : List UInt8) : stem m (m ++ [47] ++ n) = Lib.trimSuffix n [46, 104] := by
  unfold stem; rw [trimPrefix_app]
theorem stem_folder_h (m n : List UInt8) : stem m (m ++ [47] ++ n ++ [46, 104]) = n := by
  rw [List.append_assoc (m ++ [47])]; rw [stem_folder, trimSuffix_app]
end Go.Proofs.Qxb6612714a
