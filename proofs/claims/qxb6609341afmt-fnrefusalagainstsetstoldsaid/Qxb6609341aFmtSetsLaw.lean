import Derived.Test.Qxb6609341aFmtSets
import Derived.Test.Qxb6609341aFmtBytes
namespace Go.Proofs.Qxb6609341aFmt
open Go.RowKit Go.Extern.Stop Go.Stop Go.Extern
open Go.Maps (Keyed)

theorem neq_err (a : Addr) (w : World) : (binOp .neq 38 (.iface 58 (.pointer (some a))) .nilIface).run Tryf.prog w = .ok (.bool true) w := by kernel_rfl
theorem neq_nil (w : World) : (binOp .neq 38 .nilIface .nilIface).run Tryf.prog w = .ok (.bool false) w := by kernel_rfl

theorem eg_err (a : Addr) (x : Nat) (w : World) : (eqGuard .neq 38 (.tmp x) (.const .nilIface) (.iface 58 (.pointer (some a))) .nilIface).run Tryf.prog w = .ok () w := by kernel_rfl
theorem eg_nil (x : Nat) (w : World) : (eqGuard .neq 38 (.tmp x) (.const .nilIface) .nilIface .nilIface).run Tryf.prog w = .ok () w := by kernel_rfl

/-- What Refusal hands back, as far as the law looks: is it nil? -/
def Ans (r : Bool) (w : World) (e : Ending) (w' : World) : Prop :=
  ∃ v, e = .returned v ∧ (∀ wx, (binOp .neq 38 v .nilIface).run Tryf.prog wx = .ok (.bool r) wx) ∧ (∀ (x : Nat) wx, (eqGuard .neq 38 (.tmp x) (.const .nilIface) v .nilIface).run Tryf.prog wx = .ok () wx) ∧ Below w.heap.size w w'

theorem restart_any (F : Interp) (bs : Nat) (mv : Value) (d : ByteArray) (x : Bool) (w : World) (hF : F.answers w.tape) (hb : bs < w.heap.size) (hs : w.cell? ⟨bs, 0, none⟩ = some mv)
    (hl : ∀ wr, Below w.heap.size w wr → (Instr.lookup 31 mv (.string d) false).run Tryf.prog wr = .ok (.bool x) wr) :
    Calls Tryf.prog 12 #[.pointer (some ⟨bs, 0, none⟩), .iface 41 (.agg #[.string d])] w (Ans (!x) w) := by
  cases x
  · exact (refuse_restart_no F bs 0 mv d w hF hb hs hl).mono fun e w' ⟨⟨a, he⟩, hB⟩ => ⟨_, he, neq_err a, eg_err a, hB⟩
  · exact (refuse_restart_yes bs 0 mv d w hb hs hl).mono fun e w' ⟨he, hB⟩ => ⟨_, he, neq_nil, eg_nil, hB⟩

def refused (a b : ByteArray) (c x : Bool) : Bool := (a.toList == b.toList) || (c && x) || (!c && !x)

theorem link_any (F : Interp) (bs : Nat) (mv : Value) (a b : ByteArray) (c x : Bool) (w : World) (hF : F.answers w.tape) (hb : bs < w.heap.size) (hs : w.cell? ⟨bs, 0 + 2, none⟩ = some mv)
    (hl : ∀ wr, Below w.heap.size w wr → (Instr.lookup 32 mv (.agg #[.string (lo a b), .string (hi a b)]) false).run Tryf.prog wr = .ok (.bool x) wr) :
    Calls Tryf.prog 12 #[.pointer (some ⟨bs, 0, none⟩), .iface 43 (.agg #[.string a, .string b, .bool c])] w (Ans (refused a b c x) w) := by
  unfold refused
  cases he : (a.toList == b.toList)
  · cases c <;> cases x
    · exact (refuse_link_not F bs 0 mv a b w hF hb hs hl he).mono fun e w' ⟨⟨p, h⟩, hB⟩ => ⟨_, h, neq_err p, eg_err p, hB⟩
    · exact (refuse_link_ok2 bs 0 mv a b w hb hs hl he).mono fun e w' ⟨h, hB⟩ => ⟨_, h, neq_nil, eg_nil, hB⟩
    · exact (refuse_link_ok1 bs 0 mv a b w hb hs hl he).mono fun e w' ⟨h, hB⟩ => ⟨_, h, neq_nil, eg_nil, hB⟩
    · exact (refuse_link_cut F bs 0 mv a b w hF hb hs hl he).mono fun e w' ⟨⟨p, h⟩, hB⟩ => ⟨_, h, neq_err p, eg_err p, hB⟩
  · exact (refuse_link_same F bs 0 mv a b c x w hF hb hs hl he).mono fun e w' ⟨⟨p, h⟩, hB⟩ => ⟨_, h, neq_err p, eg_err p, hB⟩

set_option maxHeartbeats 1000000 in
theorem newState_any (m0 m1 : Nat) (w : World) :
    Calls Tryf.prog 9 #[.map (some m0), .map (some m1)] w fun e w' => e = .returned (.pointer (some ⟨w.heap.size, 0, none⟩)) ∧ w' = w.alloc (.cells #[.map (some m0), .map none, .map (some m1)] 46) := by
  go_enter Tryf.func9, Tryf.ntmps9
  go_wp2
  go_ret
  exact ⟨rfl, rfl⟩

theorem run_makeMapN (T K E : TypeId) (ht : Tryf.prog.underlying T = some (.map K E)) (k : IntKind) (n : Int) (w : World) : (Instr.makeMap T (some (.int k n))).run Tryf.prog w = .ok (.map (some w.heap.size)) (w.alloc (.map #[] 0)) := by
  simp [Instr.makeMap, run_underlying ht]
  rfl
theorem beq_swap (x y : List UInt8) : (x == y) = (y == x) := by
  rw [Bool.eq_iff_iff, beq_iff_eq, beq_iff_eq]
  exact ⟨Eq.symm, Eq.symm⟩

/-- What the law knows of the State that it has made: its two maps answer 'inl' at d, 'lnk' at the link. -/
structure Env (F : Interp) (bs m0 m2 : Nat) (d a b : ByteArray) (inl lnk : Bool) (W : World) : Prop where
  hF : F.answers W.tape
  lt : bs < W.heap.size
  c0 : W.cell? ⟨bs, 0, none⟩ = some (.map (some m0))
  c2 : W.cell? ⟨bs, 0 + 2, none⟩ = some (.map (some m2))
  look0 : ∀ wr, Below W.heap.size W wr → (Instr.lookup 31 (.map (some m0)) (.string d) false).run Tryf.prog wr = .ok (.bool inl) wr
  look2 : ∀ wr, Below W.heap.size W wr → (Instr.lookup 32 (.map (some m2)) (.agg #[.string (lo a b), .string (hi a b)]) false).run Tryf.prog wr = .ok (.bool lnk) wr

theorem Env.below {F : Interp} {bs m0 m2 : Nat} {d a b : ByteArray} {inl lnk : Bool} {W W' : World} (h : Env F bs m0 m2 d a b inl lnk W) (hB : Below W.heap.size W W') : Env F bs m0 m2 d a b inl lnk W' where
  hF := by rw [hB.tape]; exact h.hF
  lt := Nat.lt_of_lt_of_le h.lt hB.size
  c0 := (hB.cell h.lt).trans h.c0
  c2 := (hB.cell h.lt).trans h.c2
  look0 := fun wr hr => h.look0 wr (hB.trans (hr.mono hB.size))
  look2 := fun wr hr => h.look2 wr (hB.trans (hr.mono hB.size))

theorem Env.restart {F : Interp} {bs m0 m2 : Nat} {d a b : ByteArray} {inl lnk : Bool} {W : World} (h : Env F bs m0 m2 d a b inl lnk W) :
    Calls Tryf.prog 12 #[.pointer (some ⟨bs, 0, none⟩), .iface 41 (.agg #[.string d])] W (Ans (!inl) W) := restart_any F bs _ d inl W h.hF h.lt h.c0 h.look0
theorem Env.link {F : Interp} {bs m0 m2 : Nat} {d a b : ByteArray} {inl lnk : Bool} {W : World} (h : Env F bs m0 m2 d a b inl lnk W) (c he : Bool) (hhe : (a.toList == b.toList) = he) :
    Calls Tryf.prog 12 #[.pointer (some ⟨bs, 0, none⟩), .iface 43 (.agg #[.string a, .string b, .bool c])] W (Ans (he || (c && lnk) || (!c && !lnk)) W) := by
  have := link_any F bs _ a b c lnk W h.hF h.lt h.c2 h.look2
  unfold refused at this
  rw [hhe] at this
  exact this
theorem Env.linkBack {F : Interp} {bs m0 m2 : Nat} {d a b : ByteArray} {inl lnk : Bool} {W : World} (h : Env F bs m0 m2 d a b inl lnk W) (c he : Bool) (hhe : (a.toList == b.toList) = he) :
    Calls Tryf.prog 12 #[.pointer (some ⟨bs, 0, none⟩), .iface 43 (.agg #[.string b, .string a, .bool c])] W (Ans (he || (c && lnk) || (!c && !lnk)) W) := by
  have := link_any F bs _ b a c lnk W h.hF h.lt h.c2 (by rw [lo_comm b a, hi_comm b a]; exact h.look2)
  unfold refused at this
  rw [show (b.toList == a.toList) = he from by rw [← hhe]; exact beq_swap _ _] at this
  exact this
end Go.Proofs.Qxb6609341aFmt
