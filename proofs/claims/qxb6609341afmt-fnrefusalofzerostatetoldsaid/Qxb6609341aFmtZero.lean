import Derived.Test.Qxb6609341aFmtRefuse
namespace Go.Proofs.Qxb6609341aFmt
open Go.RowKit Go.Extern.Stop Go.Stop Go.Extern

theorem look31_nil (d : ByteArray) (w : World) : (Instr.lookup 31 (.map none) (.string d) false).run Tryf.prog w = .ok (.bool false) w := by kernel_rfl
theorem look32_nil (a b : ByteArray) (w : World) : (Instr.lookup 32 (.map none) (.agg #[.string a, .string b]) false).run Tryf.prog w = .ok (.bool false) w := by kernel_rfl

/-! ### THE BOUND (function 13) -/
set_option maxHeartbeats 1000000 in
theorem bytes13_any (a0 a1 a2 : ByteArray) (c : Bool) (w0 : a0.size ≤ maxLen) (w1 : a1.size ≤ maxLen) (w2 : a2.size ≤ maxLen) (w : World) :
    Calls Tryf.prog 13 #[.string a0, .string a1, .string a2, .bool c] w fun e w' => (∃ b, e = .returned (.bool b)) ∧ w' = w := by
  unfold maxLen at w0 w1 w2
  go_enter Tryf.func13, Tryf.ntmps13
  go_wp2
  all_goals (go_ret; exact ⟨⟨_, rfl⟩, rfl⟩)

set_option maxHeartbeats 1000000 in
theorem bytes13_true (a0 a1 a2 : ByteArray) (c : Bool) (w0 : a0.size ≤ 65536) (w1 : a1.size ≤ 65536) (w2 : a2.size ≤ 65536) (w : World) :
    Calls Tryf.prog 13 #[.string a0, .string a1, .string a2, .bool c] w fun e w' => e = .returned (.bool true) ∧ w' = w := by
  go_enter Tryf.func13, Tryf.ntmps13
  go_wp2
  all_goals (go_ret; exact ⟨rfl, rfl⟩)

set_option maxHeartbeats 1000000 in
theorem zero_same (F : Interp) (d a b : ByteArray) (c : Bool) (b0 : d.size ≤ 65536) (b1 : a.size ≤ 65536) (b2 : b.size ≤ 65536) (w : World) (hF : F.answers w.tape) (he : (a.toList == b.toList) = true) :
    Calls Tryf.prog 5 #[.string d, .string a, .string b, .bool c] w fun e w' => e = .returned (.bool true) ∧ Below w.heap.size w w' := by
  go_enter Tryf.func5, Tryf.ntmps5
  go_wp2_with fail
  refine (bytes13_true _ _ _ _ b0 b1 b2 _).mono ?_
  rintro e w1 ⟨rfl, hw⟩
  rw [hw]
  clear hw w1
  go_wp2_with fail
  have hB0 : Below w.heap.size w (w.alloc (.cells #[.map none, .map none, .map none] 46)) := (Below.refl _ _).alloc (Nat.le_refl _) _
  have hz0 : w.heap.size < (w.alloc (.cells #[.map none, .map none, .map none] 46)).heap.size := by simp
  have hc0 : (w.alloc (.cells #[.map none, .map none, .map none] 46)).cell? ⟨w.heap.size, 0, none⟩ = some (.map none) := by simp
  have hc2 : (w.alloc (.cells #[.map none, .map none, .map none] 46)).cell? ⟨w.heap.size, 2, none⟩ = some (.map none) := by simp
  have hF0 : F.answers (w.alloc (.cells #[.map none, .map none, .map none] 46)).tape := hF
  generalize hW : w.alloc (.cells #[.map none, .map none, .map none] 46) = W0 at *
  have HW : Hid (w.alloc (.cells #[.map none, .map none, .map none] 46) = W0) := hW
  clear hW
  refine (refuse_restart_no F w.heap.size 0 (.map none) d W0 hF0 hz0 hc0 (fun wr _ => look31_nil d wr)).mono ?_
  rintro e W1 ⟨⟨p1, rfl⟩, hB1⟩
  have hz1 : w.heap.size < W1.heap.size := Nat.lt_of_lt_of_le hz0 hB1.size
  have hF1 : F.answers W1.tape := by rw [hB1.tape]; exact hF0
  have hc1 : W1.cell? ⟨w.heap.size, 0 + 2, none⟩ = some (.map none) := (hB1.cell hz0).trans hc2
  go_wp2_with fail
  refine (refuse_link_same F w.heap.size 0 (.map none) a b c false W1 hF1 hz1 hc1 (fun wr _ => look32_nil _ _ wr) he).mono ?_
  rintro e W2 ⟨⟨p2, rfl⟩, hB2⟩
  go_wp2_with fail
  refine (refuse_show23 _ _).mono ?_
  rintro e w3 ⟨rfl, hw⟩
  rw [hw]
  clear hw w3
  go_wp2_with fail
  refine (refuse_show25 _ _).mono ?_
  rintro e w3 ⟨rfl, hw⟩
  rw [hw]
  clear hw w3
  go_wp2
  go_ret
  exact ⟨by simp, (hB0.trans (hB1.mono (Nat.le_of_lt hz0))).trans (hB2.mono (Nat.le_of_lt hz1))⟩

set_option maxHeartbeats 1000000 in
theorem zero_cut (F : Interp) (d a b : ByteArray) (b0 : d.size ≤ 65536) (b1 : a.size ≤ 65536) (b2 : b.size ≤ 65536) (w : World) (hF : F.answers w.tape) (he : (a.toList == b.toList) = false) :
    Calls Tryf.prog 5 #[.string d, .string a, .string b, .bool true] w fun e w' => e = .returned (.bool true) ∧ Below w.heap.size w w' := by
  go_enter Tryf.func5, Tryf.ntmps5
  go_wp2_with fail
  refine (bytes13_true _ _ _ _ b0 b1 b2 _).mono ?_
  rintro e w1 ⟨rfl, hw⟩
  rw [hw]
  clear hw w1
  go_wp2_with fail
  have hB0 : Below w.heap.size w (w.alloc (.cells #[.map none, .map none, .map none] 46)) := (Below.refl _ _).alloc (Nat.le_refl _) _
  have hz0 : w.heap.size < (w.alloc (.cells #[.map none, .map none, .map none] 46)).heap.size := by simp
  have hc0 : (w.alloc (.cells #[.map none, .map none, .map none] 46)).cell? ⟨w.heap.size, 0, none⟩ = some (.map none) := by simp
  have hc2 : (w.alloc (.cells #[.map none, .map none, .map none] 46)).cell? ⟨w.heap.size, 2, none⟩ = some (.map none) := by simp
  have hF0 : F.answers (w.alloc (.cells #[.map none, .map none, .map none] 46)).tape := hF
  generalize hW : w.alloc (.cells #[.map none, .map none, .map none] 46) = W0 at *
  have HW : Hid (w.alloc (.cells #[.map none, .map none, .map none] 46) = W0) := hW
  clear hW
  refine (refuse_restart_no F w.heap.size 0 (.map none) d W0 hF0 hz0 hc0 (fun wr _ => look31_nil d wr)).mono ?_
  rintro e W1 ⟨⟨p1, rfl⟩, hB1⟩
  have hz1 : w.heap.size < W1.heap.size := Nat.lt_of_lt_of_le hz0 hB1.size
  have hF1 : F.answers W1.tape := by rw [hB1.tape]; exact hF0
  have hc1 : W1.cell? ⟨w.heap.size, 0 + 2, none⟩ = some (.map none) := (hB1.cell hz0).trans hc2
  go_wp2_with fail
  refine (refuse_link_ok1 w.heap.size 0 (.map none) a b W1 hz1 hc1 (fun wr _ => look32_nil _ _ wr) he).mono ?_
  rintro e W2 ⟨rfl, hB2⟩
  go_wp2_with fail
  refine (refuse_show23 _ _).mono ?_
  rintro e w3 ⟨rfl, hw⟩
  rw [hw]
  clear hw w3
  go_wp2_with fail
  refine (refuse_show25 _ _).mono ?_
  rintro e w3 ⟨rfl, hw⟩
  rw [hw]
  clear hw w3
  go_wp2
  go_ret
  exact ⟨by simp, (hB0.trans (hB1.mono (Nat.le_of_lt hz0))).trans (hB2.mono (Nat.le_of_lt hz1))⟩

set_option maxHeartbeats 1000000 in
theorem zero_heal (F : Interp) (d a b : ByteArray) (b0 : d.size ≤ 65536) (b1 : a.size ≤ 65536) (b2 : b.size ≤ 65536) (w : World) (hF : F.answers w.tape) (he : (a.toList == b.toList) = false) :
    Calls Tryf.prog 5 #[.string d, .string a, .string b, .bool false] w fun e w' => e = .returned (.bool true) ∧ Below w.heap.size w w' := by
  go_enter Tryf.func5, Tryf.ntmps5
  go_wp2_with fail
  refine (bytes13_true _ _ _ _ b0 b1 b2 _).mono ?_
  rintro e w1 ⟨rfl, hw⟩
  rw [hw]
  clear hw w1
  go_wp2_with fail
  have hB0 : Below w.heap.size w (w.alloc (.cells #[.map none, .map none, .map none] 46)) := (Below.refl _ _).alloc (Nat.le_refl _) _
  have hz0 : w.heap.size < (w.alloc (.cells #[.map none, .map none, .map none] 46)).heap.size := by simp
  have hc0 : (w.alloc (.cells #[.map none, .map none, .map none] 46)).cell? ⟨w.heap.size, 0, none⟩ = some (.map none) := by simp
  have hc2 : (w.alloc (.cells #[.map none, .map none, .map none] 46)).cell? ⟨w.heap.size, 2, none⟩ = some (.map none) := by simp
  have hF0 : F.answers (w.alloc (.cells #[.map none, .map none, .map none] 46)).tape := hF
  generalize hW : w.alloc (.cells #[.map none, .map none, .map none] 46) = W0 at *
  have HW : Hid (w.alloc (.cells #[.map none, .map none, .map none] 46) = W0) := hW
  clear hW
  refine (refuse_restart_no F w.heap.size 0 (.map none) d W0 hF0 hz0 hc0 (fun wr _ => look31_nil d wr)).mono ?_
  rintro e W1 ⟨⟨p1, rfl⟩, hB1⟩
  have hz1 : w.heap.size < W1.heap.size := Nat.lt_of_lt_of_le hz0 hB1.size
  have hF1 : F.answers W1.tape := by rw [hB1.tape]; exact hF0
  have hc1 : W1.cell? ⟨w.heap.size, 0 + 2, none⟩ = some (.map none) := (hB1.cell hz0).trans hc2
  go_wp2_with fail
  refine (refuse_link_not F w.heap.size 0 (.map none) a b W1 hF1 hz1 hc1 (fun wr _ => look32_nil _ _ wr) he).mono ?_
  rintro e W2 ⟨⟨p2, rfl⟩, hB2⟩
  go_wp2_with fail
  refine (refuse_show23 _ _).mono ?_
  rintro e w3 ⟨rfl, hw⟩
  rw [hw]
  clear hw w3
  go_wp2_with fail
  refine (refuse_show25 _ _).mono ?_
  rintro e w3 ⟨rfl, hw⟩
  rw [hw]
  clear hw w3
  go_wp2
  go_ret
  exact ⟨by simp, (hB0.trans (hB1.mono (Nat.le_of_lt hz0))).trans (hB2.mono (Nat.le_of_lt hz1))⟩

set_option maxHeartbeats 1000000 in
theorem zero_out (d a b : ByteArray) (c : Bool) (w0 : d.size ≤ maxLen) (w1 : a.size ≤ maxLen) (w2 : b.size ≤ maxLen) (h : 65536 < d.size ∨ d.size ≤ 65536 ∧ 65536 < a.size ∨ d.size ≤ 65536 ∧ a.size ≤ 65536 ∧ 65536 < b.size) (w : World) :
    Calls Tryf.prog 5 #[.string d, .string a, .string b, .bool c] w fun e w' => e = .returned (.bool true) ∧ Below w.heap.size w w' := by
  rcases h with h | ⟨g0, h⟩ | ⟨g0, g1, h⟩
  all_goals
    go_enter Tryf.func5, Tryf.ntmps5
    go_wp2_with fail
    refine (bytes13_any _ _ _ _ w0 w1 w2 _).mono ?_
    rintro e w3 ⟨⟨x, rfl⟩, hw⟩
    rw [hw]
    clear hw w3
    cases x
    all_goals (go_wp2; go_ret; exact ⟨rfl, Below.refl _ _⟩)

/-- THE WALK, whatever the four arguments. -/
theorem zero_any (F : Interp) (d a b : ByteArray) (c : Bool) (w0 : d.size ≤ maxLen) (w1 : a.size ≤ maxLen) (w2 : b.size ≤ maxLen) (w : World) (hF : F.answers w.tape) :
    Calls Tryf.prog 5 #[.string d, .string a, .string b, .bool c] w fun e w' => e = .returned (.bool true) ∧ Below w.heap.size w w' := by
  by_cases h0 : d.size ≤ 65536
  · by_cases h1 : a.size ≤ 65536
    · by_cases h2 : b.size ≤ 65536
      · cases he : (a.toList == b.toList)
        · cases c
          · exact zero_heal F d a b h0 h1 h2 w hF he
          · exact zero_cut F d a b h0 h1 h2 w hF he
        · exact zero_same F d a b c h0 h1 h2 w hF he
      · exact zero_out d a b c w0 w1 w2 (Or.inr (Or.inr ⟨h0, h1, by omega⟩)) w
    · exact zero_out d a b c w0 w1 w2 (Or.inr (Or.inl ⟨h0, by omega⟩)) w
  · exact zero_out d a b c w0 w1 w2 (Or.inl (by omega)) w
end Go.Proofs.Qxb6609341aFmt
