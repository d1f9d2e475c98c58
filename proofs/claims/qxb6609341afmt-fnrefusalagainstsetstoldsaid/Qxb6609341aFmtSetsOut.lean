import Derived.Test.Qxb6609341aFmtSetsWalk
namespace Go.Proofs.Qxb6609341aFmt
open Go.RowKit Go.Extern.Stop Go.Stop Go.Extern

/-- The ways that leave by the law's own bounds. -/
def Over (ss : List ByteArray) (ps : List (ByteArray × ByteArray)) (d a b : ByteArray) : Prop :=
  65536 < ss.length ∨ (ss.length ≤ 65536 ∧ 65536 < ps.length) ∨ (ss.length ≤ 65536 ∧ ps.length ≤ 65536 ∧ 65536 < d.size) ∨ (ss.length ≤ 65536 ∧ ps.length ≤ 65536 ∧ d.size ≤ 65536 ∧ 65536 < a.size) ∨
    (ss.length ≤ 65536 ∧ ps.length ≤ 65536 ∧ d.size ≤ 65536 ∧ a.size ≤ 65536 ∧ 65536 < b.size) ∨
    (ss.length ≤ 65536 ∧ ps.length ≤ 65536 ∧ d.size ≤ 65536 ∧ a.size ≤ 65536 ∧ b.size ≤ 65536 ∧ 1048576 < d.size + a.size + b.size + 16 * ss.length + 32 * ps.length)

set_option maxRecDepth 100000 in
set_option maxHeartbeats 4000000 in
theorem law_out (sa pa : Option Addr) (cap cap' : Nat) (ss : List ByteArray) (ps : List (ByteArray × ByteArray)) (d a b : ByteArray) (c : Bool) (w : World)
    (hl1 : ss.length ≤ maxLen) (hl2 : ps.length ≤ maxLen) (hd : d.size ≤ maxLen) (ha : a.size ≤ maxLen) (hb : b.size ≤ maxLen) (hS : StrRow w sa ss) (hP : PairRow w pa ps) (ho : Over ss ps d a b) :
    Calls Tryf.prog 4 #[.slice sa ss.length cap, .slice pa ps.length cap', .string d, .string a, .string b, .bool c] w (Done w) := by
  have C8 := bytes8_any sa pa cap cap' ss ps d a b c w hl1 hl2 hd ha hb hS hP
  clear hS hP hl1 hl2 hd ha hb
  rcases ho with h | ⟨h1, h⟩ | ⟨h1, h2, h⟩ | ⟨h1, h2, h3, h⟩ | ⟨h1, h2, h3, h4, h⟩ | ⟨h1, h2, h3, h4, h5, h⟩
  all_goals
    go_enter Tryf.func4, Tryf.ntmps4
    go_wp2_with fail
    refine C8.mono ?_
    clear C8
    rintro e w1 ⟨x, rfl, _, hw⟩
    rw [hw]
    clear hw w1
    cases x
    all_goals (go_wp2; go_ret; exact ⟨rfl, Below.refl _ _⟩)

/-- THE WALK, whatever the six arguments. -/
theorem law_any (F : Interp) (sa pa : Option Addr) (cap cap' : Nat) (ss : List ByteArray) (ps : List (ByteArray × ByteArray)) (d a b : ByteArray) (c : Bool) (w : World) (hF : F.answers w.tape)
    (hl1 : ss.length ≤ maxLen) (hl2 : ps.length ≤ maxLen) (hd : d.size ≤ maxLen) (ha : a.size ≤ maxLen) (hb : b.size ≤ maxLen) (hS : StrRow w sa ss) (hP : PairRow w pa ps) :
    Calls Tryf.prog 4 #[.slice sa ss.length cap, .slice pa ps.length cap', .string d, .string a, .string b, .bool c] w (Done w) := by
  by_cases ho : Over ss ps d a b
  · exact law_out sa pa cap cap' ss ps d a b c w hl1 hl2 hd ha hb hS hP ho
  · unfold Over at ho
    exact law_in F sa pa cap cap' ss ps d a b c w hF hl1 hl2 hd ha hb hS hP (by omega) (by omega) (by omega) (by omega) (by omega) (by omega)
end Go.Proofs.Qxb6609341aFmt
