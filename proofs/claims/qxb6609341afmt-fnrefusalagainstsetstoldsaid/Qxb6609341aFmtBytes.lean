import Derived.Test.Qxb6609341aFmtLists
import Derived.LoopN
namespace Go.Proofs.Qxb6609341aFmt
open Go.RowKit Go.Extern.Stop Go.Stop Go.Extern

def SmallS (ss : List ByteArray) (k : Nat) : Prop := ∀ j, j < k → (ss.getD j ByteArray.empty).size ≤ 1048576
def SmallP (ps : List (ByteArray × ByteArray)) (k : Nat) : Prop := ∀ j, j < k → (ps.getD j (ByteArray.empty, ByteArray.empty)).1.size ≤ 1048576 ∧ (ps.getD j (ByteArray.empty, ByteArray.empty)).2.size ≤ 1048576
theorem SmallS.step {ss : List ByteArray} {k : Nat} {s : ByteArray} (h : SmallS ss k) (hs : ss.getD k ByteArray.empty = s) (h1 : s.size ≤ 1048576) : SmallS ss (k + 1) := by
  intro j hj
  by_cases e : j = k
  · rw [e, hs]; exact h1
  · exact h j (by omega)
theorem SmallP.step {ps : List (ByteArray × ByteArray)} {k : Nat} {c d : ByteArray} (h : SmallP ps k) (hs : ps.getD k (ByteArray.empty, ByteArray.empty) = (c, d)) (h1 : c.size ≤ 1048576) (h2 : d.size ≤ 1048576) : SmallP ps (k + 1) := by
  intro j hj
  by_cases e : j = k
  · rw [e, hs]; exact ⟨h1, h2⟩
  · exact h j (by omega)

/-- The answer of the bound (function 8), as far as it matters. -/
def BytesPost (ss : List ByteArray) (ps : List (ByteArray × ByteArray)) (w : World) (e : Ending) (w' : World) : Prop :=
  ∃ x, e = .returned (.bool x) ∧ (x = true → SmallS ss ss.length ∧ SmallP ps ps.length) ∧ w' = w

theorem bytes_no (ss : List ByteArray) (ps : List (ByteArray × ByteArray)) (w : World) : BytesPost ss ps w (.returned (.bool false)) w := ⟨false, rfl, (fun h => nomatch h), rfl⟩

set_option maxHeartbeats 4000000 in
theorem bytes8_any (sa pa : Option Addr) (cap cap' : Nat) (ss : List ByteArray) (ps : List (ByteArray × ByteArray)) (d a b : ByteArray) (c : Bool) (w : World)
    (hl1 : ss.length ≤ maxLen) (hl2 : ps.length ≤ maxLen) (hd : d.size ≤ maxLen) (ha : a.size ≤ maxLen) (hb : b.size ≤ maxLen) (hS : StrRow w sa ss) (hP : PairRow w pa ps) :
    Calls Tryf.prog 8 #[.slice sa ss.length cap, .slice pa ps.length cap', .string d, .string a, .string b, .bool c] w (BytesPost ss ps w) := by
  unfold maxLen at hl1 hl2 hd ha hb
  have HS : Hid (StrRow w sa ss) := hS
  have HP : Hid (PairRow w pa ps) := hP
  clear hS hP
  by_cases hl : ss.length ≤ 1048576
  · have hz0 : decide (1048576 < (ss.length : Int)) = false := by simp; omega
    go_enter Tryf.func8, Tryf.ntmps8
    go_wp2
    go_loop [13, 14] (fun n i => ∃ (k : Nat) (z : Int), k ≤ ss.length ∧ i = .int .i64 k ∧ n = .int .i64 z ∧ 0 ≤ z ∧ z ≤ 1048576 ∧ Hid (SmallS ss k)) (fun _ i => ss.length - (intOf i).toNat)
    case atStart => exact ⟨0, _, Nat.zero_le _, rfl, rfl, by omega, by omega, fun j hj => by omega⟩
    case round =>
      obtain ⟨k, z, hk, rfl, rfl, hz, hz', HT⟩ := hrel
      by_cases hlt : k < ss.length
      · obtain ⟨b, off, e, hb, hc⟩ := HS.out k hlt
        subst e
        have hck := hc k hlt
        clear hc
        generalize hs : ss.getD k ByteArray.empty = s at hck
        have Hs : Hid (ss.getD k ByteArray.empty = s) := hs
        clear hs
        by_cases h1 : s.size ≤ 1048576
        · by_cases h2 : z + s.size ≤ 1048576
          · go_wp2
            go_round
            case rel => exact ⟨k + 1, _, by omega, by go_num, rfl, by omega, by omega, HT.out.step Hs.out h1⟩
            case measure => simp [intOf]; omega
          · go_wp2
            go_ret
            exact bytes_no ss ps w
        · go_wp2
          go_ret
          exact bytes_no ss ps w
      · obtain rfl : k = ss.length := by omega
        by_cases hp : ps.length ≤ 1048576
        · by_cases hp2 : z + ps.length ≤ 1048576
          · go_wp2
            go_loop [13, 15] (fun n i => ∃ (k : Nat) (z : Int), k ≤ ps.length ∧ i = .int .i64 k ∧ n = .int .i64 z ∧ 0 ≤ z ∧ z ≤ 1048576 ∧ Hid (SmallP ps k)) (fun _ i => ps.length - (intOf i).toNat)
            case atStart => exact ⟨0, _, Nat.zero_le _, rfl, rfl, by omega, by omega, fun j hj => by omega⟩
            case round =>
              obtain ⟨k, z, hk, rfl, rfl, hz, hz', HU⟩ := hrel
              by_cases hlt : k < ps.length
              · obtain ⟨b, off, e, hb, hc⟩ := HP.out k hlt
                subst e
                obtain ⟨hc0, hc1⟩ := hc k hlt
                clear hc
                generalize hs : ps.getD k (ByteArray.empty, ByteArray.empty) = s at hc0 hc1
                have Hs : Hid (ps.getD k (ByteArray.empty, ByteArray.empty) = s) := hs
                clear hs
                obtain ⟨s0, s1⟩ := s
                simp only at hc0 hc1
                by_cases h1 : s0.size ≤ 1048576
                · by_cases h2 : z + s0.size ≤ 1048576
                  · by_cases h3 : s1.size ≤ 1048576
                    · by_cases h4 : z + s0.size + s1.size ≤ 1048576
                      · go_wp2
                        refine wp_loop_rounds 3 ?_
                        rw [rounds_succ]
                        go_wp2
                        rw [rounds_succ]
                        go_wp2
                        rw [rounds_succ]
                        go_wp2
                        exact ⟨⟨k + 1, _, by omega, by go_num, rfl, by omega, by omega, HU.out.step Hs.out h1 h3⟩, by simp [intOf]; omega⟩
                      · go_wp2
                        refine wp_loop_rounds 2 ?_
                        rw [rounds_succ]
                        go_wp2
                        rw [rounds_succ]
                        go_wp2
                        go_ret
                        exact bytes_no ss ps w
                    · go_wp2
                      refine wp_loop_rounds 2 ?_
                      rw [rounds_succ]
                      go_wp2
                      rw [rounds_succ]
                      go_wp2
                      go_ret
                      exact bytes_no ss ps w
                  · go_wp2
                    refine wp_loop_rounds 1 ?_
                    rw [rounds_succ]
                    go_wp2
                    go_ret
                    exact bytes_no ss ps w
                · go_wp2
                  refine wp_loop_rounds 1 ?_
                  rw [rounds_succ]
                  go_wp2
                  go_ret
                  exact bytes_no ss ps w
              · obtain rfl : k = ps.length := by omega
                go_wp2
                all_goals
                  go_ret
                  first
                    | exact bytes_no ss ps w
                    | exact ⟨true, rfl, fun _ => ⟨HT.out, HU.out⟩, rfl⟩
          · go_wp2
            go_ret
            exact bytes_no ss ps w
        · go_wp2
          go_ret
          exact bytes_no ss ps w
  · go_enter Tryf.func8, Tryf.ntmps8
    go_wp2
    go_ret
    exact bytes_no ss ps w
end Go.Proofs.Qxb6609341aFmt
