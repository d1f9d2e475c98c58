import Derived.Test.Qxb6612169aClone
namespace Go.Proofs.Qxb6612169a
open Go.RowKit

set_option maxHeartbeats 1000000 in
/-- zzEqualBools (function 11), of two slices that hold the same: true. -/
theorem eqB_same (sa sb : Option Addr) (ca cb : Nat) (xs : List Bool) (w : World) (hlen : xs.length ≤ 2097152) (hA : Row w sa (BV xs)) (hB : Row w sb (BV xs)) :
    Calls Try.prog 11 #[.slice sa xs.length ca, .slice sb xs.length cb] w fun e w' => e = .returned (.bool true) ∧ ∃ q, w' = w.drewN q := by
  have HA := hide hA
  have HB := hide hB
  clear hA hB
  go_enter Try.func11, Try.ntmps11
  go_wp2
  go_loopw [5] (fun i wr => ∃ k q : Nat, k ≤ xs.length ∧ i = .int .i64 k ∧ wr = w.drewN q) (fun i _ => xs.length - (intOf i).toNat)
  case atStart => exact ⟨0, 0, Nat.zero_le _, rfl, rfl⟩
  case round =>
    obtain ⟨k, q, hk, rfl, rfl⟩ := hrel
    by_cases hlt : k < xs.length
    · obtain ⟨b, off, e, hb, hc⟩ := HA.out k (by rw [BV_len]; exact hlt)
      subst e
      obtain ⟨b', off', e, hb', hc'⟩ := HB.out k (by rw [BV_len]; exact hlt)
      subst e
      have hck := hc k _ (BV_get xs k hlt)
      have hck' := hc' k _ (BV_get xs k hlt)
      clear hc hc'
      generalize xs.getD k false = x at hck hck'
      go_wp2_with fail
      go_quiet (fail)
      go_wp2
      exact ⟨⟨k + 1, _, by omega, by go_num, rfl⟩, by simp [intOf]; omega⟩
    · go_wp2
      go_ret
      exact ⟨rfl, _, rfl⟩

set_option maxHeartbeats 1000000 in
/-- zzEqualInts (function 13), of two slices that hold the same: true. -/
theorem eqI_same (sa sb : Option Addr) (ca cb : Nat) (xs : List Int) (w : World) (hlen : xs.length ≤ 2097152) (hA : Row w sa (IV xs)) (hB : Row w sb (IV xs)) :
    Calls Try.prog 13 #[.slice sa xs.length ca, .slice sb xs.length cb] w fun e w' => e = .returned (.bool true) ∧ ∃ q, w' = w.drewN q := by
  have HA := hide hA
  have HB := hide hB
  clear hA hB
  go_enter Try.func13, Try.ntmps13
  go_wp2
  go_loopw [5] (fun i wr => ∃ k q : Nat, k ≤ xs.length ∧ i = .int .i64 k ∧ wr = w.drewN q) (fun i _ => xs.length - (intOf i).toNat)
  case atStart => exact ⟨0, 0, Nat.zero_le _, rfl, rfl⟩
  case round =>
    obtain ⟨k, q, hk, rfl, rfl⟩ := hrel
    by_cases hlt : k < xs.length
    · obtain ⟨b, off, e, hb, hc⟩ := HA.out k (by rw [IV_len]; exact hlt)
      subst e
      obtain ⟨b', off', e, hb', hc'⟩ := HB.out k (by rw [IV_len]; exact hlt)
      subst e
      have hck := hc k _ (IV_get xs k hlt)
      have hck' := hc' k _ (IV_get xs k hlt)
      clear hc hc'
      generalize xs.getD k 0 = x at hck hck'
      go_wp2_with fail
      go_quiet (fail)
      go_wp2
      exact ⟨⟨k + 1, _, by omega, by go_num, rfl⟩, by simp [intOf]; omega⟩
    · go_wp2
      go_ret
      exact ⟨rfl, _, rfl⟩


set_option maxHeartbeats 1000000 in
/-- The bound (function 4). -/
theorem bytes_any (s0 s1 s5 s6 : Option Addr) (n0 n1 n5 n6 c0 c1 c5 c6 : Nat) (a2 a3 a4 : Int) (w : World) (h0 : n0 ≤ maxLen) (h1 : n1 ≤ maxLen) (h5 : n5 ≤ maxLen) (h6 : n6 ≤ maxLen) :
    Calls Try.prog 4 #[.slice s0 n0 c0, .slice s1 n1 c1, .int .i64 a2, .int .i64 a3, .int .i64 a4, .slice s5 n5 c5, .slice s6 n6 c6] w fun e w' =>
      ∃ x, e = .returned (.bool x) ∧ (x = true → n0 ≤ 1048576 ∧ n1 ≤ 1048576 ∧ n5 ≤ 1048576 ∧ n6 ≤ 1048576) ∧ w' = w := by
  unfold maxLen at h0 h1 h5 h6
  go_enter Try.func4, Try.ntmps4
  go_wp2
  all_goals
    go_ret
    first
      | exact ⟨false, rfl, (fun h => nomatch h), rfl⟩
      | exact ⟨true, rfl, fun _ => ⟨by omega, by omega, by omega, by omega⟩, rfl⟩
end Go.Proofs.Qxb6612169a
