import Derived.Test.Qxb6609341aFmtRefuse
namespace Go.Proofs.Qxb6609341aFmt
open Go.RowKit Go.Extern.Stop Go.Stop Go.Extern

/-- A slice of strings as the walk reads it: nil or not; where there is an element the address is known. -/
def StrRow (w : World) (sa : Option Addr) (ss : List ByteArray) : Prop :=
  ∀ k, k < ss.length → ∃ b off, sa = some ⟨b, off, none⟩ ∧ b < w.heap.size ∧ ∀ j, j < ss.length → w.cell? ⟨b, off + j, none⟩ = some (.string (ss.getD j ByteArray.empty))

theorem StrRow.below {w w' : World} {sa : Option Addr} {ss : List ByteArray} (h : StrRow w sa ss) (hB : Below w.heap.size w w') : StrRow w' sa ss := by
  intro k hk
  obtain ⟨b, off, e, hb, hc⟩ := h k hk
  exact ⟨b, off, e, Nat.lt_of_lt_of_le hb hB.size, fun j hj => (hB.cell hb).trans (hc j hj)⟩

/-- Is the string on the list? -/
def inL (ss : List ByteArray) (x : ByteArray) : Bool := ss.any fun s => s.toList == x.toList
theorem take_getD (ss : List ByteArray) (k : Nat) (h : k < ss.length) : ss.take (k + 1) = ss.take k ++ [ss.getD k ByteArray.empty] := by
  rw [List.take_succ_eq_append_getElem h]
  simp [List.getD, h]
theorem inL_step (ss : List ByteArray) (x : ByteArray) (k : Nat) (h : k < ss.length) (h0 : inL (ss.take k) x = false) (h1 : ((ss.getD k ByteArray.empty).toList == x.toList) = false) : inL (ss.take (k + 1)) x = false := by
  unfold inL at h0 ⊢
  rw [take_getD ss k h, List.any_append, h0]
  simp only [List.any_cons, List.any_nil, Bool.or_false, Bool.false_or]
  exact h1
theorem inL_hit (ss : List ByteArray) (x : ByteArray) (k : Nat) (h : k < ss.length) (h1 : ((ss.getD k ByteArray.empty).toList == x.toList) = true) : inL ss x = true := by
  unfold inL
  rw [List.any_eq_true]
  exact ⟨ss.getD k ByteArray.empty, by simp [List.getD, h], h1⟩

set_option maxHeartbeats 1000000 in
theorem inList_any (sa : Option Addr) (cap : Nat) (ss : List ByteArray) (x : ByteArray) (w : World) (hlen : ss.length ≤ 1048576) (hS : StrRow w sa ss) :
    Calls Tryf.prog 10 #[.slice sa ss.length cap, .string x] w fun e w' => e = .returned (.bool (inL ss x)) ∧ w' = w := by
  generalize hb : inL ss x = bb
  have HB : Hid (inL ss x = bb) := hb
  clear hb
  have HS : Hid (StrRow w sa ss) := hS
  clear hS
  go_enter Tryf.func10, Tryf.ntmps10
  go_wp2
  go_loop [5] (fun i => ∃ k : Nat, k ≤ ss.length ∧ i = .int .i64 k ∧ Hid (inL (ss.take k) x = false)) (fun i => ss.length - (intOf i).toNat)
  case atStart => exact ⟨0, Nat.zero_le _, rfl, rfl⟩
  case round =>
    obtain ⟨k, hk, rfl, HT⟩ := hrel
    by_cases hlt : k < ss.length
    · obtain ⟨b, off, e, hb, hc⟩ := HS.out k hlt
      subst e
      have hck := hc k hlt
      clear hc
      generalize hs : ss.getD k ByteArray.empty = s at hck
      have Hs : Hid (ss.getD k ByteArray.empty = s) := hs
      clear hs
      go_wp2
      · go_ret
        exact ⟨by rw [← HB.out, inL_hit ss x k hlt (by rw [Hs.out]; assumption)]; rfl, rfl⟩
      · go_round
        case rel => exact ⟨k + 1, by omega, by go_num, inL_step ss x k hlt HT.out (by rw [Hs.out]; assumption)⟩
        case measure => simp [intOf]; omega
    · go_wp2
      go_ret
      obtain rfl : k = ss.length := by omega
      refine ⟨?_, rfl⟩
      rw [← HB.out, ← HT.out, List.take_length]
      rfl
/-! ### A slice of pairs of strings -/
def PairRow (w : World) (pa : Option Addr) (ps : List (ByteArray × ByteArray)) : Prop :=
  ∀ k, k < ps.length → ∃ b off, pa = some ⟨b, off, none⟩ ∧ b < w.heap.size ∧ ∀ j, j < ps.length →
    w.cell? ⟨b, off + j * 2, none⟩ = some (.string (ps.getD j (ByteArray.empty, ByteArray.empty)).1) ∧ w.cell? ⟨b, off + j * 2 + 1, none⟩ = some (.string (ps.getD j (ByteArray.empty, ByteArray.empty)).2)

theorem PairRow.below {w w' : World} {pa : Option Addr} {ps : List (ByteArray × ByteArray)} (h : PairRow w pa ps) (hB : Below w.heap.size w w') : PairRow w' pa ps := by
  intro k hk
  obtain ⟨b, off, e, hb, hc⟩ := h k hk
  exact ⟨b, off, e, Nat.lt_of_lt_of_le hb hB.size, fun j hj => ⟨(hB.cell hb).trans (hc j hj).1, (hB.cell hb).trans (hc j hj).2⟩⟩

/-- Is the link on the list, named in either order? -/
def hit (a b c d : ByteArray) : Bool := (c.toList == a.toList && d.toList == b.toList) || (c.toList == b.toList && d.toList == a.toList)
def linkL (ps : List (ByteArray × ByteArray)) (a b : ByteArray) : Bool := ps.any fun p => hit a b p.1 p.2
theorem takeP (ps : List (ByteArray × ByteArray)) (k : Nat) (h : k < ps.length) : ps.take (k + 1) = ps.take k ++ [ps.getD k (ByteArray.empty, ByteArray.empty)] := by
  rw [List.take_succ_eq_append_getElem h]
  simp [List.getD, h]
theorem linkL_step (ps : List (ByteArray × ByteArray)) (a b : ByteArray) (k : Nat) (h : k < ps.length) {c d : ByteArray} (hc : ps.getD k (ByteArray.empty, ByteArray.empty) = (c, d)) (h0 : linkL (ps.take k) a b = false)
    (h1 : hit a b c d = false) : linkL (ps.take (k + 1)) a b = false := by
  unfold linkL at h0 ⊢
  rw [takeP ps k h, List.any_append, h0, hc]
  simp only [List.any_cons, List.any_nil, Bool.or_false, Bool.false_or]
  exact h1
theorem linkL_hit (ps : List (ByteArray × ByteArray)) (a b : ByteArray) (k : Nat) (h : k < ps.length) {c d : ByteArray} (hc : ps.getD k (ByteArray.empty, ByteArray.empty) = (c, d)) (h1 : hit a b c d = true) : linkL ps a b = true := by
  unfold linkL
  rw [List.any_eq_true]
  refine ⟨(c, d), ?_, h1⟩
  rw [← hc]
  simp [List.getD, h]

set_option maxHeartbeats 2000000 in
theorem linkListed_any (pa : Option Addr) (cap : Nat) (ps : List (ByteArray × ByteArray)) (x y : ByteArray) (w : World) (hlen : ps.length ≤ 1048576) (hS : PairRow w pa ps) :
    Calls Tryf.prog 11 #[.slice pa ps.length cap, .string x, .string y] w fun e w' => e = .returned (.bool (linkL ps x y)) ∧ w' = w := by
  generalize hb : linkL ps x y = bb
  have HB : Hid (linkL ps x y = bb) := hb
  clear hb
  have HS : Hid (PairRow w pa ps) := hS
  clear hS
  go_enter Tryf.func11, Tryf.ntmps11
  go_wp2
  go_loop [7] (fun i => ∃ k : Nat, k ≤ ps.length ∧ i = .int .i64 k ∧ Hid (linkL (ps.take k) x y = false)) (fun i => ps.length - (intOf i).toNat)
  case atStart => exact ⟨0, Nat.zero_le _, rfl, rfl⟩
  case round =>
    obtain ⟨k, hk, rfl, HT⟩ := hrel
    by_cases hlt : k < ps.length
    · obtain ⟨b, off, e, hb, hc⟩ := HS.out k hlt
      subst e
      obtain ⟨hc0, hc1⟩ := hc k hlt
      clear hc
      generalize hs : ps.getD k (ByteArray.empty, ByteArray.empty) = s at hc0 hc1
      have Hs : Hid (ps.getD k (ByteArray.empty, ByteArray.empty) = s) := hs
      clear hs
      obtain ⟨c, d⟩ := s
      simp only at hc0 hc1
      cases e1 : (c.toList == x.toList) <;> cases e2 : (d.toList == y.toList) <;> cases e3 : (c.toList == y.toList) <;> cases e4 : (d.toList == x.toList)
      all_goals
        have hh : Hid (hit x y c d = (((c.toList == x.toList) && (d.toList == y.toList)) || ((c.toList == y.toList) && (d.toList == x.toList)))) := rfl
        simp only [e1, e2, e3, e4, Bool.and_true, Bool.and_false, Bool.or_true, Bool.or_false] at hh
        go_wp2
        first
          | (go_ret
             exact ⟨by rw [← HB.out, linkL_hit ps x y k hlt Hs.out hh.out]; rfl, rfl⟩)
          | (exact ⟨⟨k + 1, by omega, by go_num, linkL_step ps x y k hlt Hs.out HT.out hh.out⟩, by simp [intOf]; omega⟩)
    · go_wp2
      go_ret
      obtain rfl : k = ps.length := by omega
      refine ⟨?_, rfl⟩
      rw [← HB.out, ← HT.out, List.take_length]
      rfl
end Go.Proofs.Qxb6609341aFmt
