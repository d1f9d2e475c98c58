import Derived.Test.Qxb6609358aDoorRows
import Derived.WalkKit
import Derived.WalkSpells
import Derived.WalkLawsBesides
import Derived.Outline
import Derived.RowKit3
import Derived.Laws.Bits64b
import Derived.Lib.TrailingZeros
namespace Go.Proofs.Qxb6609358aDoor
open Go.RowKit

/-! ### Plain laws on trailing zeros -/
theorem ctz_spec (x : Nat) (h0 : x ≠ 0) (h : x < 18446744073709551616) : ∃ m, x = 2 ^ Lib.ctz 64 x * (2 * m + 1) ∧ Lib.ctz 64 x < 64 := by
  have := Lib.ctzFrom_spec 64 x (by omega) h
  simpa [Lib.ctz, h0] using this

theorem dvd_iff (x j : Nat) (h0 : x ≠ 0) (h : x < 18446744073709551616) : 2 ^ j ∣ x ↔ j ≤ Lib.ctz 64 x := by
  obtain ⟨m, hm, _⟩ := ctz_spec x h0 h
  generalize Lib.ctz 64 x = k at hm ⊢
  constructor
  · intro hd
    apply Nat.le_of_not_lt
    intro hlt
    have h1 : 2 ^ (k + 1) ∣ x := Nat.dvd_trans (Nat.pow_dvd_pow 2 hlt) hd
    rw [hm, Nat.pow_succ] at h1
    have h2 := Nat.dvd_of_mul_dvd_mul_left (Nat.two_pow_pos k) h1
    omega
  · intro hle
    rw [hm]
    exact Nat.dvd_trans (Nat.pow_dvd_pow 2 hle) (Nat.dvd_mul_right _ _)

/-- A byte of x: is it zero? -/
theorem byte_zero_iff (x j : Nat) (hd : 2 ^ (8 * j) ∣ x) : x / 2 ^ (8 * j) % 256 = 0 ↔ 2 ^ (8 * (j + 1)) ∣ x := by
  obtain ⟨y, rfl⟩ := hd
  rw [Nat.mul_div_cancel_left _ (Nat.two_pow_pos _), show 8 * (j + 1) = 8 * j + 8 from by omega, Nat.pow_add]
  constructor
  · intro h
    exact Nat.mul_dvd_mul_left _ (Nat.dvd_of_mod_eq_zero h)
  · intro h
    exact Nat.mod_eq_zero_of_dvd (Nat.dvd_of_mul_dvd_mul_left (Nat.two_pow_pos _) h)

/-- What firstByte answers. -/
def fb (x : Nat) : Nat := Lib.ctz 64 x / 8
theorem fb_lt (x : Nat) (h0 : x ≠ 0) (h : x < 18446744073709551616) : fb x < 8 := by
  obtain ⟨m, _, hk⟩ := ctz_spec x h0 h
  unfold fb; omega
theorem byte_below (x j : Nat) (h0 : x ≠ 0) (h : x < 18446744073709551616) (hj : j < fb x) : x / 2 ^ (8 * j) % 256 = 0 := by
  unfold fb at hj
  exact (byte_zero_iff x j ((dvd_iff x _ h0 h).2 (by omega))).2 ((dvd_iff x _ h0 h).2 (by omega))
theorem byte_at (x : Nat) (h0 : x ≠ 0) (h : x < 18446744073709551616) : x / 2 ^ (8 * fb x) % 256 ≠ 0 := by
  intro e
  have h1 := (byte_zero_iff x (fb x) ((dvd_iff x _ h0 h).2 (by unfold fb; omega))).1 e
  have h2 := (dvd_iff x _ h0 h).1 h1
  unfold fb at h2; omega
theorem fb_low (x : Nat) (h0 : x ≠ 0) (h : x < 18446744073709551616) (hb : x % 256 ≠ 0) : fb x = 0 := by
  unfold fb
  apply Nat.div_eq_of_lt
  apply Nat.lt_of_not_le
  intro hle
  have := (dvd_iff x 8 h0 h).2 hle
  omega
theorem fb_step (x : Nat) (h0 : x ≠ 0) (h : x < 18446744073709551616) (hb : x % 256 = 0) : fb x = fb (x / 256) + 1 := by
  have hx : x / 256 ≠ 0 := by omega
  have hx' : x / 256 < 18446744073709551616 := by omega
  have key : ∀ j, j + 8 ≤ Lib.ctz 64 x ↔ j ≤ Lib.ctz 64 (x / 256) := by
    intro j
    rw [← dvd_iff x _ h0 h, ← dvd_iff (x / 256) _ hx hx', Nat.pow_add]
    obtain ⟨y, rfl⟩ : 256 ∣ x := Nat.dvd_of_mod_eq_zero hb
    rw [Nat.mul_div_cancel_left _ (by decide), Nat.mul_comm (2 ^ j)]
    exact ⟨fun h => Nat.dvd_of_mul_dvd_mul_left (by decide) h, fun h => Nat.mul_dvd_mul_left _ h⟩
  have k1 := (key (Lib.ctz 64 (x / 256))).2 (Nat.le_refl _)
  have k2 := (key (Lib.ctz 64 x - 8)).1 (by omega)
  unfold fb; omega

theorem byteI (x j : Nat) : (x : Int) / 2 ^ (8 * j) % 256 = ((x / 2 ^ (8 * j) % 256 : Nat) : Int) := by
  rw [Int.natCast_emod, Int.natCast_ediv, Int.natCast_pow]; rfl

/-! ### The walks -/
/-- The table in its variable. -/
def TabAt (w : World) : Prop := ∀ j, j < Lib.deBruijn64tab.length → w.cell? ⟨3, j, none⟩ = some (.int .u8 (Lib.deBruijn64tab.getD j 0))

theorem tz_key (x a : Nat) (hx : x < 18446744073709551616) (hx0 : x ≠ 0) (hlow : x &&& (18446744073709551616 - x) = a) :
    IntKind.u64.wrap (bits BinOp.and IntKind.u64 (x : Int) (IntKind.u64.wrap (-(x : Int))) * 285870213051353865) / 288230376151711744 = ((a * 285870213051353865 % 18446744073709551616 / 288230376151711744 : Nat) : Int) := by
  have e1 : IntKind.u64.wrap (-(x : Int)) = ((18446744073709551616 - x : Nat) : Int) := by rw [IntKind.wrap_u64]; omega
  rw [e1, bits_and_u64_nat x _ hx (by omega), hlow, IntKind.wrap_u64]
  omega

set_option maxHeartbeats 1000000 in
theorem tz_core (x k idx : Nat) (w : World) (hx0 : ((x : Int) == 0) = false)
    (key : IntKind.u64.wrap (bits BinOp.and IntKind.u64 (x : Int) (IntKind.u64.wrap (-(x : Int))) * 285870213051353865) / 288230376151711744 = (idx : Int))
    (hi : idx < 64) (hk : k < 64) (hcell : w.cell? ⟨3, idx, none⟩ = some (.int .u8 k)) :
    Calls Tryd.prog 41 #[.int .u64 x] w fun e w' => e = .returned (.int .i64 k) ∧ w' = w := by
  go_enter Tryd.func41, Tryd.ntmps41
  go_wp2_with (simp only [key])
  go_ret
  exact ⟨rfl, rfl⟩

theorem tz_any (x : Nat) (hx : x < 18446744073709551616) (hx0 : x ≠ 0) (w : World) (hT : TabAt w) :
    Calls Tryd.prog 41 #[.int .u64 x] w fun e w' => e = .returned (.int .i64 (Lib.ctz 64 x : Nat)) ∧ w' = w := by
  obtain ⟨hlow, hk⟩ := Lib.lowest_bit 64 x hx0 hx
  obtain ⟨hi, htab⟩ := Lib.deBruijn64_at _ hk
  have hcell := hT _ hi
  rw [htab] at hcell
  exact tz_core x _ _ w (by simp; omega) (tz_key x _ hx hx0 hlow) hi hk hcell

set_option maxHeartbeats 1000000 in
theorem firstByte_any (x : Nat) (hx : x < 18446744073709551616) (hx0 : x ≠ 0) (w : World) (hT : TabAt w) :
    Calls Tryd.prog 24 #[.int .u64 x] w fun e w' => e = .returned (.int .i64 (fb x : Nat)) ∧ w' = w := by
  have C := tz_any x hx hx0 w hT
  have hk : Lib.ctz 64 x < 64 := by obtain ⟨_, _, h⟩ := ctz_spec x hx0 hx; exact h
  unfold fb
  generalize Lib.ctz 64 x = c at C hk ⊢
  clear hT hx hx0
  go_enter Tryd.func24, Tryd.ntmps24
  go_wp2_with (go_at_call 41; refine C.mono ?_; rintro e w' ⟨rfl, hw⟩; rw [hw])
  go_ret
  exact ⟨by simp, rfl⟩

set_option maxHeartbeats 1000000 in
theorem zzFirstByte_any (x : Nat) (hx : x < 18446744073709551616) (hx0 : x ≠ 0) (w : World) (hT : TabAt w) :
    Calls Tryd.prog 8 #[.int .u64 x] w fun e w' => e = .returned (.int .i64 (fb x : Nat)) ∧ w' = w := by
  have C := firstByte_any x hx hx0 w hT
  clear hT hx hx0
  go_enter Tryd.func8, Tryd.ntmps8
  go_wp2_with (go_at_call 24; refine C.mono ?_; rintro e w' ⟨rfl, hw⟩; rw [hw])
  go_ret
  exact ⟨rfl, rfl⟩

set_option maxHeartbeats 1000000 in
/-- FnFirstByteStepsByByte, x not 0. -/
theorem steps_any (x : Nat) (hx : x < 18446744073709551616) (hx0 : x ≠ 0) (w : World) (hT : TabAt w) :
    Calls Tryd.prog 4 #[.int .u64 x] w fun e w' => e = .returned (.bool true) ∧ w' = w := by
  have C := zzFirstByte_any x hx hx0 w hT
  have C2 := fun (h : x / 256 ≠ 0) => zzFirstByte_any (x / 256) (by omega) h w hT
  have hne : ((x : Int) == 0) = false := by simp; omega
  by_cases hb : x % 256 = 0
  · have hs := fb_step x hx0 hx hb
    have C3 := C2 (by omega)
    rw [hs] at C
    have hlt : fb (x / 256) < 8 := fb_lt _ (by omega) (by omega)
    generalize fb (x / 256) = k at *
    clear hT hx0 C2 hs
    have hbI : (((x : Int) % 256) != 0) = false := by simp; omega
    rw [show ((x / 256 : Nat) : Int) = (x : Int) / 256 from by omega] at C3
    have HC3 : Hid (Calls Tryd.prog 8 #[.int .u64 ((x : Int) / 256)] w fun e w' => e = .returned (.int .i64 (k : Nat)) ∧ w' = w) := C3
    clear C3 hb
    go_enter Tryd.func4, Tryd.ntmps4
    go_wp2_with fail
    refine C.mono ?_
    rintro e w1 ⟨rfl, hw⟩
    rw [hw]
    clear hw w1 C
    go_wp2_with fail
    refine HC3.out.mono ?_
    rintro e w1 ⟨rfl, hw⟩
    rw [hw]
    clear hw w1 HC3
    go_wp2
    go_ret
    exact ⟨by simp, rfl⟩
  · have hs := fb_low x hx0 hx hb
    rw [hs] at C
    have hbI : (((x : Int) % 256) != 0) = true := by simp; omega
    clear hT hx0 C2 hs hb
    go_enter Tryd.func4, Tryd.ntmps4
    go_wp2_with fail
    refine C.mono ?_
    rintro e w1 ⟨rfl, hw⟩
    rw [hw]
    clear hw w1 C
    go_wp2
    go_ret
    exact ⟨rfl, rfl⟩

set_option maxHeartbeats 1000000 in
/-- FnFirstByteStepsByByte at 0. -/
theorem steps_zero (w : World) : Calls Tryd.prog 4 #[.int .u64 0] w fun e w' => e = .returned (.bool true) ∧ w' = w := by
  go_enter Tryd.func4, Tryd.ntmps4
  go_wp2
  go_ret
  exact ⟨rfl, rfl⟩

set_option maxHeartbeats 1000000 in
/-- FnFirstByteIsLowestNonzeroByte at 0. -/
theorem lowest_zero (w : World) : Calls Tryd.prog 3 #[.int .u64 0] w fun e w' => e = .returned (.bool true) ∧ w' = w := by
  go_enter Tryd.func3, Tryd.ntmps3
  go_wp2
  go_ret
  exact ⟨rfl, rfl⟩

set_option maxHeartbeats 1000000 in
/-- FnFirstByteIsLowestNonzeroByte, x not 0. -/
theorem lowest_any (x : Nat) (hx : x < 18446744073709551616) (hx0 : x ≠ 0) (w : World) (hT : TabAt w) :
    Calls Tryd.prog 3 #[.int .u64 x] w fun e w' => e = .returned (.bool true) ∧ w' = w := by
  have C := zzFirstByte_any x hx hx0 w hT
  have hne : ((x : Int) == 0) = false := by simp; omega
  have hk := fb_lt x hx0 hx
  have hlow := fun j (hj : j < fb x) => byte_below x j hx0 hx hj
  have hat := byte_at x hx0 hx
  generalize fb x = k at *
  have Hlow : Hid (∀ j, j < k → x / 2 ^ (8 * j) % 256 = 0) := hlow
  have Hat : Hid (x / 2 ^ (8 * k) % 256 ≠ 0) := hat
  clear hT hx0 hlow hat hx
  go_enter Tryd.func3, Tryd.ntmps3
  go_wp2_with fail
  refine C.mono ?_
  rintro e w1 ⟨rfl, hw⟩
  rw [hw]
  clear hw w1 C
  go_wp2
  go_loop [4] (fun i => ∃ j : Nat, j ≤ k ∧ i = .int .i64 j) (fun i => k - (intOf i).toNat)
  case atStart => exact ⟨0, Nat.zero_le _, rfl⟩
  case round =>
    obtain ⟨j, hj, rfl⟩ := hrel
    by_cases hlt : j < k
    · have hb : (((x : Int) / 2 ^ (8 * j) % 256) != 0) = false := by rw [byteI, Hlow.out j hlt]; rfl
      go_wp2
      exact ⟨⟨j + 1, by omega, by go_num⟩, by simp [intOf]; omega⟩
    · have hb : (((x : Int) / 2 ^ (8 * k) % 256) != 0) = true := by rw [byteI, bne_iff_ne]; have := Hat.out; omega
      go_wp2
      go_ret
      exact ⟨rfl, rfl⟩
end Go.Proofs.Qxb6609358aDoor
