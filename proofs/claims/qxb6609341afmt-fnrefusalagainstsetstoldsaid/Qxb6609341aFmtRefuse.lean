import Derived.Test.Qxb6609341aFmtErr
import Derived.BigQuiet
import Derived.Deep.QuietTactic
import Derived.Deep.RegionHeld3
import Derived.Laws.Pointers
namespace Go.Proofs.Qxb6609341aFmt
open Go.RowKit Go.Extern.Stop Go.Stop Go.Extern

theorem below_drewN {B : Nat} {a w : World} (h : Below B a w) (n : Nat) : Below B a (w.drewN n) := h.trans ⟨rfl, rfl, rfl, Nat.le_refl _, fun _ _ => rfl⟩

theorem ta41 (d : ByteArray) (w : World) : (Instr.typeAssert (.iface 41 (.agg #[.string d])) 49 41 true).run Tryf.prog w = .ok (.tuple #[.agg #[.string d], .bool true]) w := by kernel_rfl
theorem ta43_41 (a b : ByteArray) (c : Bool) (w : World) : (Instr.typeAssert (.iface 43 (.agg #[.string a, .string b, .bool c])) 49 41 true).run Tryf.prog w = .ok (.tuple #[.agg #[.string ⟨#[]⟩], .bool false]) w := by kernel_rfl
theorem ta43 (a b : ByteArray) (c : Bool) (w : World) : (Instr.typeAssert (.iface 43 (.agg #[.string a, .string b, .bool c])) 49 43 true).run Tryf.prog w = .ok (.tuple #[.agg #[.string a, .string b, .bool c], .bool true]) w := by kernel_rfl
theorem ta23_41 (w : World) : (Instr.typeAssert (.iface 23 (.agg #[])) 49 41 true).run Tryf.prog w = .ok (.tuple #[.agg #[.string ⟨#[]⟩], .bool false]) w := by kernel_rfl
theorem ta23_43 (w : World) : (Instr.typeAssert (.iface 23 (.agg #[])) 49 43 true).run Tryf.prog w = .ok (.tuple #[.agg #[.string ⟨#[]⟩, .string ⟨#[]⟩, .bool false], .bool false]) w := by kernel_rfl
theorem ta25_41 (w : World) : (Instr.typeAssert (.iface 25 (.agg #[])) 49 41 true).run Tryf.prog w = .ok (.tuple #[.agg #[.string ⟨#[]⟩], .bool false]) w := by kernel_rfl
theorem ta25_43 (w : World) : (Instr.typeAssert (.iface 25 (.agg #[])) 49 43 true).run Tryf.prog w = .ok (.tuple #[.agg #[.string ⟨#[]⟩, .string ⟨#[]⟩, .bool false], .bool false]) w := by kernel_rfl
attribute [local go_sem] ta41 ta43_41 ta43 ta23_41 ta23_43 ta25_41 ta25_43

set_option maxHeartbeats 1000000 in
/-- A restart: refused just where the map says no. -/
theorem refuse_restart_no (F : Interp) (b off : Nat) (mv : Value) (d : ByteArray) (w : World) (hF : F.answers w.tape) (hb : b < w.heap.size) (hs : w.cell? ⟨b, off, none⟩ = some mv)
    (hl : ∀ wr, Below w.heap.size w wr → (Instr.lookup 31 mv (.string d) false).run Tryf.prog wr = .ok (.bool false) wr) :
    Calls Tryf.prog 12 #[.pointer (some ⟨b, off, none⟩), .iface 41 (.agg #[.string d])] w fun e w' => (∃ a, e = .returned (.iface 58 (.pointer (some a)))) ∧ Below w.heap.size w w' := by
  have hal : ∀ o, Below w.heap.size w (w.alloc o) := fun o => (Below.refl _ _).alloc (Nat.le_refl _) o
  have hl1 : ∀ o n, (Instr.lookup 31 mv (.string d) false).run Tryf.prog ((w.alloc o).drewN n) = .ok (.bool false) ((w.alloc o).drewN n) := fun o n => hl _ (below_drewN (hal o) n)
  clear hl
  go_enter Tryf.func12, Tryf.ntmps12
  go_wp2
  go_quiet (fail)
  go_wp2_with fail
  refine (errorfRun F _ _ d _ (by exact hF) (by go_simp)).mono ?_
  rintro e w' ⟨⟨a, rfl⟩, hB⟩
  go_wp2
  go_ret
  exact ⟨⟨_, rfl⟩, ((below_drewN (hal _) _).alloc (by simp) _).trans (hB.mono (by simp; omega))⟩

set_option maxHeartbeats 1000000 in
theorem refuse_restart_yes (b off : Nat) (mv : Value) (d : ByteArray) (w : World) (hb : b < w.heap.size) (hs : w.cell? ⟨b, off, none⟩ = some mv)
    (hl : ∀ wr, Below w.heap.size w wr → (Instr.lookup 31 mv (.string d) false).run Tryf.prog wr = .ok (.bool true) wr) :
    Calls Tryf.prog 12 #[.pointer (some ⟨b, off, none⟩), .iface 41 (.agg #[.string d])] w fun e w' => e = .returned .nilIface ∧ Below w.heap.size w w' := by
  have hal : ∀ o, Below w.heap.size w (w.alloc o) := fun o => (Below.refl _ _).alloc (Nat.le_refl _) o
  have hl1 : ∀ o n, (Instr.lookup 31 mv (.string d) false).run Tryf.prog ((w.alloc o).drewN n) = .ok (.bool true) ((w.alloc o).drewN n) := fun o n => hl _ (below_drewN (hal o) n)
  clear hl
  go_enter Tryf.func12, Tryf.ntmps12
  go_wp2
  go_quiet (fail)
  go_wp2
  go_ret
  exact ⟨rfl, below_drewN (hal _) _⟩

set_option maxHeartbeats 1000000 in
theorem refuse_show23 (p : Value) (w : World) :
    Calls Tryf.prog 12 #[p, .iface 23 (.agg #[])] w fun e w' => e = .returned .nilIface ∧ w' = w := by
  go_enter Tryf.func12, Tryf.ntmps12
  go_wp2
  go_ret
  exact ⟨rfl, rfl⟩

set_option maxHeartbeats 1000000 in
theorem refuse_show25 (p : Value) (w : World) :
    Calls Tryf.prog 12 #[p, .iface 25 (.agg #[])] w fun e w' => e = .returned .nilIface ∧ w' = w := by
  go_enter Tryf.func12, Tryf.ntmps12
  go_wp2
  go_ret
  exact ⟨rfl, rfl⟩

/-! ### min and max of two strings -/
def lo (a b : ByteArray) : ByteArray := if (Op.bytesLess a.toList b.toList || a.toList == b.toList) = true then a else b
def hi (a b : ByteArray) : ByteArray := if (!Op.bytesLess a.toList b.toList) = true then a else b
theorem run_min_str (P : Program) (ts : Array TypeId) (t : TypeId) (a b : ByteArray) (w : World) : (Builtin.min_ ts t #[.string a, .string b]).run P w = .ok (.string (lo a b)) w := by
  simp [Builtin.min_, Builtin.min2, Op.stringOp, lo, asBool]
theorem run_max_str (P : Program) (ts : Array TypeId) (t : TypeId) (a b : ByteArray) (w : World) : (Builtin.max_ ts t #[.string a, .string b]).run P w = .ok (.string (hi a b)) w := by
  simp [Builtin.max_, Builtin.max2, Op.stringOp, hi, asBool]

set_option maxHeartbeats 1000000 in
theorem linkKey_any (a b : ByteArray) (w : World) :
    Calls Tryf.prog 16 #[.string a, .string b] w fun e w' => e = .returned (.agg #[.string (lo a b), .string (hi a b)]) ∧ w' = w.alloc (.cells #[.string (lo a b), .string (hi a b)] 30) := by
  have h1 := run_min_str Tryf.prog
  have h2 := run_max_str Tryf.prog
  go_enter Tryf.func16, Tryf.ntmps16
  go_wp2
  exact bodyPost_ret (v := .agg #[.string (lo a b), .string (hi a b)]) (by simp [results, Tryf.results16, go_sem]) rfl ⟨rfl, rfl⟩

set_option maxHeartbeats 1000000 in
theorem refuse_link_same (F : Interp) (bs off : Nat) (mv : Value) (a b : ByteArray) (c x : Bool) (w : World) (hF : F.answers w.tape) (hb : bs < w.heap.size) (hs : w.cell? ⟨bs, off + 2, none⟩ = some mv)
    (hl : ∀ wr, Below w.heap.size w wr → (Instr.lookup 32 mv (.agg #[.string (lo a b), .string (hi a b)]) false).run Tryf.prog wr = .ok (.bool x) wr) (he : (a.toList == b.toList) = true) :
    Calls Tryf.prog 12 #[.pointer (some ⟨bs, off, none⟩), .iface 43 (.agg #[.string a, .string b, .bool c])] w fun e w' => (∃ p, e = .returned (.iface 58 (.pointer (some p)))) ∧ Below w.heap.size w w' := by
  have hal : ∀ o, Below w.heap.size w (w.alloc o) := fun o => (Below.refl _ _).alloc (Nat.le_refl _) o
  have hal2 : ∀ o1 o2, Below w.heap.size w ((w.alloc o1).alloc o2).drew := fun o1 o2 => ((hal o1).alloc (by simp) o2).drew
  have hl2 : ∀ o1 o2, (Instr.lookup 32 mv (.agg #[.string (lo a b), .string (hi a b)]) false).run Tryf.prog ((w.alloc o1).alloc o2).drew = .ok (.bool x) ((w.alloc o1).alloc o2).drew := fun o1 o2 => hl _ (hal2 o1 o2)
  clear hl
  go_enter Tryf.func12, Tryf.ntmps12
  go_wp2
  go_region_held3 (fun w' => w'.cell? ⟨bs, off + 2, none⟩ = some mv ∧ w'.cell? ⟨w.heap.size, 0, none⟩ = some (.string a) ∧ w'.cell? ⟨w.heap.size, 1, none⟩ = some (.string b)) (simp [go_sem, World.cell?_alloc_past, *])
    (first
      | (go_at_call 16; refine (linkKey_any a b _).mono ?_; rintro e w' ⟨rfl, rfl⟩))
  go_wp2_with fail
  refine (errorfTwice F _ _ a _ (by exact hF) (by go_simp)).mono ?_
  rintro e w' ⟨⟨p, rfl⟩, hB⟩
  go_wp2
  go_ret
  exact ⟨⟨_, rfl⟩, ((hal2 _ _).alloc (by simp; omega) _).trans (hB.mono (by simp; omega))⟩

set_option maxHeartbeats 1000000 in
theorem refuse_link_cut (F : Interp) (bs off : Nat) (mv : Value) (a b : ByteArray) (w : World) (hF : F.answers w.tape) (hb : bs < w.heap.size) (hs : w.cell? ⟨bs, off + 2, none⟩ = some mv)
    (hl : ∀ wr, Below w.heap.size w wr → (Instr.lookup 32 mv (.agg #[.string (lo a b), .string (hi a b)]) false).run Tryf.prog wr = .ok (.bool true) wr) (he : (a.toList == b.toList) = false) :
    Calls Tryf.prog 12 #[.pointer (some ⟨bs, off, none⟩), .iface 43 (.agg #[.string a, .string b, .bool true])] w fun e w' => (∃ p, e = .returned (.iface 58 (.pointer (some p)))) ∧ Below w.heap.size w w' := by
  have hal : ∀ o, Below w.heap.size w (w.alloc o) := fun o => (Below.refl _ _).alloc (Nat.le_refl _) o
  have hal2 : ∀ o1 o2, Below w.heap.size w ((w.alloc o1).alloc o2).drew := fun o1 o2 => ((hal o1).alloc (by simp) o2).drew
  have hl2 : ∀ o1 o2, (Instr.lookup 32 mv (.agg #[.string (lo a b), .string (hi a b)]) false).run Tryf.prog ((w.alloc o1).alloc o2).drew = .ok (.bool true) ((w.alloc o1).alloc o2).drew := fun o1 o2 => hl _ (hal2 o1 o2)
  clear hl
  go_enter Tryf.func12, Tryf.ntmps12
  go_wp2
  go_region_held3 (fun w' => w'.cell? ⟨bs, off + 2, none⟩ = some mv ∧ w'.cell? ⟨w.heap.size, 0, none⟩ = some (.string a) ∧ w'.cell? ⟨w.heap.size, 1, none⟩ = some (.string b)) (simp [go_sem, World.cell?_alloc_past, *])
    (first
      | (go_at_call 16; refine (linkKey_any a b _).mono ?_; rintro e w' ⟨rfl, rfl⟩))
  go_wp2_with fail
  refine (errorfCut F _ _ a b _ (by exact hF) (by go_simp) (by go_simp)).mono ?_
  rintro e w' ⟨⟨p, rfl⟩, hB⟩
  go_wp2
  go_ret
  exact ⟨⟨_, rfl⟩, ((hal2 _ _).alloc (by simp; omega) _).trans (hB.mono (by simp; omega))⟩

set_option maxHeartbeats 1000000 in
theorem refuse_link_not (F : Interp) (bs off : Nat) (mv : Value) (a b : ByteArray) (w : World) (hF : F.answers w.tape) (hb : bs < w.heap.size) (hs : w.cell? ⟨bs, off + 2, none⟩ = some mv)
    (hl : ∀ wr, Below w.heap.size w wr → (Instr.lookup 32 mv (.agg #[.string (lo a b), .string (hi a b)]) false).run Tryf.prog wr = .ok (.bool false) wr) (he : (a.toList == b.toList) = false) :
    Calls Tryf.prog 12 #[.pointer (some ⟨bs, off, none⟩), .iface 43 (.agg #[.string a, .string b, .bool false])] w fun e w' => (∃ p, e = .returned (.iface 58 (.pointer (some p)))) ∧ Below w.heap.size w w' := by
  have hal : ∀ o, Below w.heap.size w (w.alloc o) := fun o => (Below.refl _ _).alloc (Nat.le_refl _) o
  have hal2 : ∀ o1 o2, Below w.heap.size w ((w.alloc o1).alloc o2).drew := fun o1 o2 => ((hal o1).alloc (by simp) o2).drew
  have hl2 : ∀ o1 o2, (Instr.lookup 32 mv (.agg #[.string (lo a b), .string (hi a b)]) false).run Tryf.prog ((w.alloc o1).alloc o2).drew = .ok (.bool false) ((w.alloc o1).alloc o2).drew := fun o1 o2 => hl _ (hal2 o1 o2)
  clear hl
  go_enter Tryf.func12, Tryf.ntmps12
  go_wp2
  go_region_held3 (fun w' => w'.cell? ⟨bs, off + 2, none⟩ = some mv ∧ w'.cell? ⟨w.heap.size, 0, none⟩ = some (.string a) ∧ w'.cell? ⟨w.heap.size, 1, none⟩ = some (.string b)) (simp [go_sem, World.cell?_alloc_past, *])
    (first
      | (go_at_call 16; refine (linkKey_any a b _).mono ?_; rintro e w' ⟨rfl, rfl⟩))
  go_wp2_with fail
  refine (errorfNot F _ _ a b _ (by exact hF) (by go_simp) (by go_simp)).mono ?_
  rintro e w' ⟨⟨p, rfl⟩, hB⟩
  go_wp2
  go_ret
  exact ⟨⟨_, rfl⟩, ((hal2 _ _).alloc (by simp; omega) _).trans (hB.mono (by simp; omega))⟩

set_option maxHeartbeats 1000000 in
theorem refuse_link_ok1 (bs off : Nat) (mv : Value) (a b : ByteArray) (w : World) (hb : bs < w.heap.size) (hs : w.cell? ⟨bs, off + 2, none⟩ = some mv)
    (hl : ∀ wr, Below w.heap.size w wr → (Instr.lookup 32 mv (.agg #[.string (lo a b), .string (hi a b)]) false).run Tryf.prog wr = .ok (.bool false) wr) (he : (a.toList == b.toList) = false) :
    Calls Tryf.prog 12 #[.pointer (some ⟨bs, off, none⟩), .iface 43 (.agg #[.string a, .string b, .bool true])] w fun e w' => e = .returned .nilIface ∧ Below w.heap.size w w' := by
  have hal : ∀ o, Below w.heap.size w (w.alloc o) := fun o => (Below.refl _ _).alloc (Nat.le_refl _) o
  have hal2 : ∀ o1 o2, Below w.heap.size w ((w.alloc o1).alloc o2).drew := fun o1 o2 => ((hal o1).alloc (by simp) o2).drew
  have hl2 : ∀ o1 o2, (Instr.lookup 32 mv (.agg #[.string (lo a b), .string (hi a b)]) false).run Tryf.prog ((w.alloc o1).alloc o2).drew = .ok (.bool false) ((w.alloc o1).alloc o2).drew := fun o1 o2 => hl _ (hal2 o1 o2)
  clear hl
  go_enter Tryf.func12, Tryf.ntmps12
  go_wp2
  go_region_held3 (fun w' => w'.cell? ⟨bs, off + 2, none⟩ = some mv ∧ w'.cell? ⟨w.heap.size, 0, none⟩ = some (.string a) ∧ w'.cell? ⟨w.heap.size, 1, none⟩ = some (.string b)) (simp [go_sem, World.cell?_alloc_past, *])
    (first
      | (go_at_call 16; refine (linkKey_any a b _).mono ?_; rintro e w' ⟨rfl, rfl⟩))
  go_wp2
  go_ret
  exact ⟨rfl, hal2 _ _⟩

set_option maxHeartbeats 1000000 in
theorem refuse_link_ok2 (bs off : Nat) (mv : Value) (a b : ByteArray) (w : World) (hb : bs < w.heap.size) (hs : w.cell? ⟨bs, off + 2, none⟩ = some mv)
    (hl : ∀ wr, Below w.heap.size w wr → (Instr.lookup 32 mv (.agg #[.string (lo a b), .string (hi a b)]) false).run Tryf.prog wr = .ok (.bool true) wr) (he : (a.toList == b.toList) = false) :
    Calls Tryf.prog 12 #[.pointer (some ⟨bs, off, none⟩), .iface 43 (.agg #[.string a, .string b, .bool false])] w fun e w' => e = .returned .nilIface ∧ Below w.heap.size w w' := by
  have hal : ∀ o, Below w.heap.size w (w.alloc o) := fun o => (Below.refl _ _).alloc (Nat.le_refl _) o
  have hal2 : ∀ o1 o2, Below w.heap.size w ((w.alloc o1).alloc o2).drew := fun o1 o2 => ((hal o1).alloc (by simp) o2).drew
  have hl2 : ∀ o1 o2, (Instr.lookup 32 mv (.agg #[.string (lo a b), .string (hi a b)]) false).run Tryf.prog ((w.alloc o1).alloc o2).drew = .ok (.bool true) ((w.alloc o1).alloc o2).drew := fun o1 o2 => hl _ (hal2 o1 o2)
  clear hl
  go_enter Tryf.func12, Tryf.ntmps12
  go_wp2
  go_region_held3 (fun w' => w'.cell? ⟨bs, off + 2, none⟩ = some mv ∧ w'.cell? ⟨w.heap.size, 0, none⟩ = some (.string a) ∧ w'.cell? ⟨w.heap.size, 1, none⟩ = some (.string b)) (simp [go_sem, World.cell?_alloc_past, *])
    (first
      | (go_at_call 16; refine (linkKey_any a b _).mono ?_; rintro e w' ⟨rfl, rfl⟩))
  go_wp2
  go_ret
  exact ⟨rfl, hal2 _ _⟩

end Go.Proofs.Qxb6609341aFmt
