import Derived.Test.Qxb6609341aFmtLists
import Derived.Maps.Own
import Derived.Maps.Views
import Derived.Maps.OwnSet
import Derived.DeepKeys4
import Derived.Sort.Walk0
namespace Go.Proofs.Qxb6609341aFmt
open Go.RowKit Go.Extern.Stop Go.Stop Go.Extern
open Go.Maps (Keyed)

theorem law9 : Keyed Tryf.prog 9 := Maps.string_keyed Tryf.underlying9
theorem laidOut0 : laidOutB Tryf.prog = true := by kernel_rfl
theorem row30 : (30 : TypeId) < Tryf.prog.types.size := of_decide_eq_true (by kernel_rfl)
theorem wide30 : (match Tryf.prog.underlying 30 with | some (.array _ _) | some (.struct _) => true | _ => false) = true := by rw [Tryf.underlying30]
theorem law30 : Keyed Tryf.prog 30 := Keyed.of_law (deep_law_laid laidOut0 (m := 2) (by omega) row30 (by kernel_rfl) wide30)
theorem zero4 (w : World) : (zeroValue 4).run Tryf.prog w = .ok (.bool false) w := by kernel_rfl

abbrev no : DataW Unit := .lit (.bool false)
abbrev yes : DataW Unit := .lit (.bool true)

/-- Block b of w is a map of bools, at most n entries, that answers true just at the keys in S. -/
def SetMap (w : World) (K : TypeId) (b n : Nat) (S : Value → Prop) : Prop :=
  ∃ D : DataW Unit, w.ownsMap Tryf.prog K (plainElem Tryf.prog 4) b n D ∧ ∀ v kl, keyOf Tryf.prog K v = some kl → (S v → D.atKey kl no = yes) ∧ (¬ S v → D.atKey kl no = no)

theorem SetMap.made (w : World) (K : TypeId) : SetMap (w.alloc (.map #[] 0)) K w.heap.size 0 (fun _ => False) :=
  ⟨.map [], World.ownsMap_made _ _ _ _, fun _ _ _ => ⟨fun h => h.elim, fun _ => rfl⟩⟩

theorem SetMap.lt {w : World} {K : TypeId} {b n : Nat} {S : Value → Prop} (h : SetMap w K b n S) : b < w.heap.size := by
  obtain ⟨D, ho, _⟩ := h
  exact ho.lt

theorem SetMap.below {w w' : World} {K : TypeId} {b n B : Nat} {S : Value → Prop} (h : SetMap w K b n S) (hB : Below B w w') (hb : b < B) : SetMap w' K b n S := by
  obtain ⟨D, ⟨es, clock, h1, h2⟩, hS⟩ := h
  exact ⟨D, ⟨es, clock, (hB.block b hb).trans h1, h2⟩, hS⟩

theorem SetMap.grown {w w' : World} {K : TypeId} {b n : Nat} {S : Value → Prop} {row : Option Nat} (h : SetMap w K b n S) (hg : w.grownBy w' row) (hne : some b ≠ row) : SetMap w' K b n S := by
  obtain ⟨D, ho, hS⟩ := h
  exact ⟨D, ho.kept hg hne, hS⟩

theorem SetMap.put {w' : World} {K : TypeId} {b n : Nat} {S : Value → Prop} {D : DataW Unit} (L : Keyed Tryf.prog K) {v : Value} {kl : Lit} (hk : keyOf Tryf.prog K v = some kl) (hm : Maps.IsMap D)
    (hS : ∀ v kl, keyOf Tryf.prog K v = some kl → (S v → D.atKey kl no = yes) ∧ (¬ S v → D.atKey kl no = no)) (ho : w'.ownsMap Tryf.prog K (plainElem Tryf.prog 4) b n (D.put kl yes)) :
    SetMap w' K b n (fun u => u = v ∨ S u) := by
  refine ⟨_, ho, fun u kl' hk' => ?_⟩
  by_cases e : kl' = kl
  · subst e
    have := L.inj hk' hk
    subst this
    rw [Maps.atKey_put_same hm (L.key hk)]
    exact ⟨fun _ => rfl, fun h => (h (Or.inl rfl)).elim⟩
  · rw [Maps.atKey_put_other e]
    have hne : u ≠ v := fun e' => e (by subst e'; exact Option.some.inj (hk'.symm.trans hk))
    have := hS u kl' hk'
    exact ⟨fun h => this.1 (h.resolve_left hne), fun h => this.2 (fun h' => h (Or.inr h'))⟩

theorem plainElem_bool_inv {v : Value} {z : DataW Unit × List MemPlace} (h : plainElem Tryf.prog 4 v = some z) : ∃ x, v = .bool x ∧ z = (.lit (.bool x), []) := by
  unfold plainElem at h
  rw [Tryf.underlying4] at h
  cases v <;> simp at h
  exact ⟨_, rfl, h.symm⟩

theorem SetMap.look {w : World} {T K : TypeId} {b n : Nat} {S : Value → Prop} (h : SetMap w K b n S) (L : Keyed Tryf.prog K) (ht : Tryf.prog.underlying T = some (.map K 4)) {v : Value} {kl : Lit} (hk : keyOf Tryf.prog K v = some kl) :
    (S v → (Instr.lookup T (.map (some b)) v false).run Tryf.prog w = .ok (.bool true) w) ∧ (¬ S v → (Instr.lookup T (.map (some b)) v false).run Tryf.prog w = .ok (.bool false) w) := by
  obtain ⟨D, ho, hS⟩ := h
  obtain ⟨v', ps, hrun, hv⟩ := ho.lookup L ht (zero4 w) (plainElem_bool Tryf.underlying4 false) hk
  obtain ⟨x, rfl, hx⟩ := plainElem_bool_inv hv
  simp only [Prod.mk.injEq] at hx
  have := hS v kl hk
  refine ⟨fun h => ?_, fun h => ?_⟩
  · have e := (this.1 h).symm.trans hx.1
    cases e
    exact hrun
  · have e := (this.2 h).symm.trans hx.1
    cases e
    exact hrun
/-! ### What the keys read as -/
theorem key9 {s : ByteArray} (hs : s.size ≤ maxLen) : keyOf Tryf.prog 9 (.string s) = some (.string s.data.toList) := WideMaps.keyOf_string_mk Tryf.underlying9 hs

theorem cells9' : Tryf.prog.cellsOf 9 = 1 := by kernel_rfl
theorem cells30' : Tryf.prog.cellsOf 30 = 2 := by kernel_rfl
theorem keyType30 : Tryf.prog.keyType 30 = true := by kernel_rfl
theorem key30 {a b : ByteArray} (ha : a.size ≤ maxLen) (hb : b.size ≤ maxLen) : ∃ kl, keyOf Tryf.prog 30 (.agg #[.string a, .string b]) = some kl := by
  have hn : ∃ n, Tryf.prog.types.size = n + 1 := ⟨Tryf.prog.types.size - 1, (Nat.sub_add_cancel (Nat.lt_of_le_of_lt (Nat.zero_le 30) row30)).symm⟩
  obtain ⟨n, hn⟩ := hn
  have h1 : ∀ s : ByteArray, s.size ≤ maxLen → Tryf.prog.keyLits (n + 1) 9 [.string s] = some [.string s.data.toList] := fun s hs => by
    simp [Program.keyLits, Tryf.underlying9, hs]
  have h2 : Tryf.prog.keyLits (n + 1 + 1) 30 [.string a, .string b] = some [.string a.data.toList, .string b.data.toList] := by
    rw [Program.keyLits.eq_def]
    simp [Tryf.underlying30, cells30', cells9', List.range, List.range.loop, h1 a ha, h1 b hb]
  have hf : (Value.agg #[.string a, .string b]).formed Tryf.prog 30 = true := by simp [Value.formed, Tryf.underlying30, cells30']
  refine ⟨.string (keyBytes [.string a.data.toList, .string b.data.toList]), ?_⟩
  unfold keyOf
  rw [Tryf.underlying30]
  simp only [keyType30, hf, Bool.and_self, if_true, hn]
  show (Tryf.prog.keyLits (n + 1 + 1) 30 [.string a, .string b]).map _ = _
  rw [h2]
  rfl

/-! ### The order of strings -/
theorem bl_irrefl : ∀ x : List UInt8, Op.bytesLess x x = false
  | [] => rfl
  | a :: x => by simp [Op.bytesLess, bl_irrefl x]
theorem bl_asymm : ∀ x y : List UInt8, Op.bytesLess x y = true → Op.bytesLess y x = false
  | [], [], h => by simp [Op.bytesLess] at h
  | [], _ :: _, _ => rfl
  | _ :: _, [], h => by simp [Op.bytesLess] at h
  | a :: x, b :: y, h => by
    simp only [Op.bytesLess, Bool.or_eq_true, decide_eq_true_eq, Bool.and_eq_true, beq_iff_eq] at h
    simp only [Op.bytesLess, Bool.or_eq_false_iff, decide_eq_false_iff_not, Bool.and_eq_false_iff, beq_eq_false_iff_ne]
    rcases h with h | ⟨rfl, h⟩
    · refine ⟨fun h' => ?_, Or.inl (fun e => ?_)⟩
      · exact absurd (UInt8.lt_trans h h') (UInt8.lt_irrefl _)
      · subst e; exact UInt8.lt_irrefl _ h
    · exact ⟨UInt8.lt_irrefl _, Or.inr (bl_asymm x y h)⟩
theorem bl_total : ∀ x y : List UInt8, Op.bytesLess x y = false → Op.bytesLess y x = false → x = y
  | [], [], _, _ => rfl
  | [], _ :: _, h, _ => by simp [Op.bytesLess] at h
  | _ :: _, [], _, h => by simp [Op.bytesLess] at h
  | a :: x, b :: y, h, h' => by
    simp only [Op.bytesLess, Bool.or_eq_false_iff, decide_eq_false_iff_not, Bool.and_eq_false_iff, beq_eq_false_iff_ne] at h h'
    have e : a = b := by
      have h1 := h.1; have h2 := h'.1
      rw [UInt8.lt_iff_toNat_lt] at h1 h2
      exact UInt8.toNat_inj.1 (by omega)
    subst e
    rw [bl_total x y (h.2.resolve_left (fun n => n rfl)) (h'.2.resolve_left (fun n => n rfl))]

theorem ba_inj {a b : ByteArray} (h : a.toList = b.toList) : a = b := by
  rw [ByteArray.toList_eq, ByteArray.toList_eq] at h
  obtain ⟨⟨x⟩⟩ := a
  obtain ⟨⟨y⟩⟩ := b
  simp at h
  rw [h]

theorem lo_comm (a b : ByteArray) : lo a b = lo b a := by
  unfold lo
  cases h : Op.bytesLess a.toList b.toList <;> cases h' : Op.bytesLess b.toList a.toList
  · have := ba_inj (bl_total _ _ h h'); subst this; rfl
  · have hne : (a.toList == b.toList) = false := by
      rw [beq_eq_false_iff_ne]; intro e; rw [e, bl_irrefl] at h'; cases h'
    simp [hne]
  · have hne : (b.toList == a.toList) = false := by
      rw [beq_eq_false_iff_ne]; intro e; rw [e, bl_irrefl] at h; cases h
    simp [hne]
  · rw [bl_asymm _ _ h] at h'; cases h'
theorem hi_comm (a b : ByteArray) : hi a b = hi b a := by
  unfold hi
  cases h : Op.bytesLess a.toList b.toList <;> cases h' : Op.bytesLess b.toList a.toList
  · have := ba_inj (bl_total _ _ h h'); subst this; rfl
  · simp
  · simp
  · rw [bl_asymm _ _ h] at h'; cases h'

/-- The pairs are each named in the strings' order. -/
def Rising (ps : List (ByteArray × ByteArray)) : Prop := ∀ p ∈ ps, Op.bytesLess p.1.toList p.2.toList = true

theorem hit_iff {a b c d : ByteArray} (hcd : Op.bytesLess c.toList d.toList = true) : hit a b c d = true ↔ (lo a b = c ∧ hi a b = d) := by
  unfold hit lo hi
  cases h : Op.bytesLess a.toList b.toList
  · cases h' : Op.bytesLess b.toList a.toList
    · have e := ba_inj (bl_total _ _ h h')
      subst e
      simp only [Bool.false_or, beq_self_eq_true, if_true, Bool.not_false, Bool.or_self]
      simp only [Bool.and_eq_true, beq_iff_eq]
      constructor
      · rintro ⟨h1, h2⟩; exact ⟨(ba_inj h1).symm, (ba_inj h2).symm⟩
      · rintro ⟨rfl, rfl⟩; exact ⟨rfl, rfl⟩
    · have hne : (a.toList == b.toList) = false := by
        rw [beq_eq_false_iff_ne]; intro e; rw [e, bl_irrefl] at h'; cases h'
      simp only [hne, Bool.or_self, Bool.not_false, if_true, Bool.or_eq_true, Bool.and_eq_true, beq_iff_eq, Bool.false_eq_true, if_false]
      constructor
      · rintro (⟨h1, h2⟩ | ⟨h1, h2⟩)
        · rw [h1, h2, h] at hcd; cases hcd
        · exact ⟨(ba_inj h1).symm, (ba_inj h2).symm⟩
      · rintro ⟨rfl, rfl⟩; exact Or.inr ⟨rfl, rfl⟩
  · simp only [Bool.true_or, if_true, Bool.not_true, Bool.false_eq_true, if_false, Bool.or_eq_true, Bool.and_eq_true, beq_iff_eq]
    constructor
    · rintro (⟨h1, h2⟩ | ⟨h1, h2⟩)
      · exact ⟨(ba_inj h1).symm, (ba_inj h2).symm⟩
      · rw [h1, h2, bl_asymm _ _ h] at hcd; cases hcd
    · rintro ⟨rfl, rfl⟩; exact Or.inl ⟨rfl, rfl⟩

def pairV (p : ByteArray × ByteArray) : Value := .agg #[.string p.1, .string p.2]
theorem link_iff {ps : List (ByteArray × ByteArray)} (h : Rising ps) (a b : ByteArray) : linkL ps a b = true ↔ ∃ p ∈ ps, Value.agg #[.string (lo a b), .string (hi a b)] = pairV p := by
  unfold linkL
  rw [List.any_eq_true]
  constructor
  · rintro ⟨p, hp, hh⟩
    obtain ⟨h1, h2⟩ := (hit_iff (h p hp)).1 hh
    exact ⟨p, hp, by rw [h1, h2]; rfl⟩
  · rintro ⟨p, hp, e⟩
    refine ⟨p, hp, (hit_iff (h p hp)).2 ?_⟩
    simp only [pairV, Value.agg.injEq, Array.mk.injEq, List.cons.injEq, Value.string.injEq, and_true] at e
    exact e
theorem inL_iff (ss : List ByteArray) (x : ByteArray) : inL ss x = true ↔ ∃ s ∈ ss, Value.string x = .string s := by
  unfold inL
  rw [List.any_eq_true]
  constructor
  · rintro ⟨s, hs, e⟩
    exact ⟨s, hs, by rw [ba_inj (beq_iff_eq.1 e)]⟩
  · rintro ⟨s, hs, e⟩
    simp only [Value.string.injEq] at e
    exact ⟨s, hs, by rw [e]; simp⟩
end Go.Proofs.Qxb6609341aFmt
