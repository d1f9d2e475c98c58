import Derived.Test.Qxb6609341aFmtRows
import Derived.WalkKit
import Derived.WalkSpells
import Derived.WalkLawsBesides
import Derived.Outline
import Derived.RowKit3
import Derived.LoopN
namespace Go.Proofs.Qxb6609341aFmt
open Go.RowKit

def pgsS : ByteArray := ⟨#[112, 103, 115]⟩
def costS : ByteArray := ⟨#[112, 101, 101, 114, 105, 110, 103, 45, 99, 111, 115, 116]⟩

/-- What the listed variable's memory holds. -/
structure Shows (w : World) (b off : Nat) : Prop where
  g : ∃ cap, w.cell? ⟨0, 0, none⟩ = some (.slice (some ⟨b, off, none⟩) 2 cap)
  c0 : w.cell? ⟨b, off, none⟩ = some (.string ⟨#[112, 103, 115]⟩)
  c1 : w.cell? ⟨b, off + 1, none⟩ = some (.iface 23 (.agg #[]))
  c2 : w.cell? ⟨b, off + 2, none⟩ = some (.string ⟨#[112, 101, 101, 114, 105, 110, 103, 45, 99, 111, 115, 116]⟩)
  c3 : w.cell? ⟨b, off + 3, none⟩ = some (.iface 25 (.agg #[]))

theorem eql_pp (w : World) : (binOp .eql 49 (.iface 23 (.agg #[])) (.iface 23 (.agg #[]))).run Tryf.prog w = .ok (.bool true) w := by kernel_rfl
theorem eql_cp (w : World) : (binOp .eql 49 (.iface 23 (.agg #[])) (.iface 25 (.agg #[]))).run Tryf.prog w = .ok (.bool false) w := by kernel_rfl
theorem eql_cc (w : World) : (binOp .eql 49 (.iface 25 (.agg #[])) (.iface 25 (.agg #[]))).run Tryf.prog w = .ok (.bool true) w := by kernel_rfl

set_option maxHeartbeats 1000000 in
theorem plain_pgs (b off : Nat) (w : World) (h : Shows w b off) :
    Calls Tryf.prog 14 #[.iface 23 (.agg #[])] w fun e w' => e = .returned (.string ⟨#[115, 104, 111, 119, 32, 112, 103, 115]⟩) ∧ Below w.heap.size w w' := by
  obtain ⟨⟨cap, g⟩, c0, c1, c2, c3⟩ := h
  have e1 := eql_pp
  go_enter Tryf.func14, Tryf.ntmps14
  go_wp2
  refine wp_loop_rounds 1 ?_
  rw [rounds_succ]
  go_wp2
  go_ret
  exact ⟨rfl, (Below.refl _ _).alloc (Nat.le_refl _) _⟩

set_option maxHeartbeats 1000000 in
theorem plain_cost (b off : Nat) (w : World) (h : Shows w b off) (hb : b < w.heap.size) :
    Calls Tryf.prog 14 #[.iface 25 (.agg #[])] w fun e w' => e = .returned (.string ⟨#[115, 104, 111, 119, 32, 112, 101, 101, 114, 105, 110, 103, 45, 99, 111, 115, 116]⟩) ∧ Below w.heap.size w w' := by
  obtain ⟨⟨cap, g⟩, c0, c1, c2, c3⟩ := h
  have e1 := eql_cp
  have e2 := eql_cc
  go_enter Tryf.func14, Tryf.ntmps14
  go_wp2
  refine wp_loop_rounds 2 ?_
  rw [rounds_succ]
  go_wp2
  rw [rounds_succ]
  go_wp2
  go_ret
  exact ⟨rfl, ((Below.refl _ _).alloc (Nat.le_refl _) _).alloc (by simp) _⟩

theorem shows_below {w w' : World} {b off : Nat} (h : Shows w b off) (hb : b < w.heap.size) (hg : Below w.heap.size w w') : Shows w' b off := by
  have hb0 : 0 < w.heap.size := by omega
  obtain ⟨⟨cap, g⟩, c0, c1, c2, c3⟩ := h
  exact ⟨⟨cap, (hg.cell hb0).trans g⟩, (hg.cell hb).trans c0, (hg.cell hb).trans c1, (hg.cell hb).trans c2, (hg.cell hb).trans c3⟩

set_option maxHeartbeats 1000000 in
theorem string_pgs (b off : Nat) (w : World) (h : Shows w b off) (hb : b < w.heap.size) :
    Calls Tryf.prog 6 #[.agg #[]] w fun e w' => e = .returned (.string ⟨#[115, 104, 111, 119, 32, 112, 103, 115]⟩) ∧ Below w.heap.size w w' := by
  have hal : ∀ o, Below w.heap.size w (w.alloc o) := fun o => (Below.refl _ _).alloc (Nat.le_refl _) o
  go_enter Tryf.func6, Tryf.ntmps6
  go_wp2_with (go_at_call 14; refine (plain_pgs b off _ (by exact shows_below h hb (hal _))).mono ?_; rintro e w' ⟨rfl, hg⟩)
  go_ret
  exact ⟨rfl, (hal _).trans (hg.mono (by simp))⟩

set_option maxHeartbeats 1000000 in
theorem string_cost (b off : Nat) (w : World) (h : Shows w b off) (hb : b < w.heap.size) :
    Calls Tryf.prog 7 #[.agg #[]] w fun e w' => e = .returned (.string ⟨#[115, 104, 111, 119, 32, 112, 101, 101, 114, 105, 110, 103, 45, 99, 111, 115, 116]⟩) ∧ Below w.heap.size w w' := by
  have hal : ∀ o, Below w.heap.size w (w.alloc o) := fun o => (Below.refl _ _).alloc (Nat.le_refl _) o
  go_enter Tryf.func7, Tryf.ntmps7
  go_wp2_with (go_at_call 14; refine (plain_cost b off _ (by exact shows_below h hb (hal _)) (by simp; omega)).mono ?_; rintro e w' ⟨rfl, hg⟩)
  go_ret
  exact ⟨rfl, (hal _).trans (hg.mono (by simp))⟩

set_option maxHeartbeats 1000000 in
/-- The law: both lines as they are asked. -/
theorem law_show (b off : Nat) (w : World) (h : Shows w b off) (hb : b < w.heap.size) :
    Calls Tryf.prog 3 #[] w fun e w' => e = .returned (.bool true) ∧ Below w.heap.size w w' := by
  go_enter Tryf.func3, Tryf.ntmps3
  go_wp2_with fail
  refine (string_pgs b off _ h hb).mono ?_
  rintro e w1 ⟨rfl, h1⟩
  go_wp2_with fail
  refine (string_cost b off _ (shows_below h hb h1) (Nat.lt_of_lt_of_le hb h1.size)).mono ?_
  rintro e w2 ⟨rfl, h2⟩
  go_wp2
  go_ret
  exact ⟨rfl, h1.trans (h2.mono h1.size)⟩
end Go.Proofs.Qxb6609341aFmt
