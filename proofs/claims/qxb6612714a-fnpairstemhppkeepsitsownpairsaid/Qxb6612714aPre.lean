import Derived.Test.Qxb6612714aStrs
import Derived.BigQuiet
import Derived.Deep.QuietTactic
namespace Go.Proofs.Qxb6612714a
open Go.RowKit

theorem take_snoc (s : ByteArray) (k : Nat) (h : k < s.size) : s.data.toList.take (k + 1) = s.data.toList.take k ++ [s[k]] := by
  rw [List.take_succ_eq_append_getElem (by simpa using h)]; rfl

theorem pre_step (s p : ByteArray) (k : Nat) (hs : k < s.size) (hp : k < p.size) (h : s.data.toList.take k = p.data.toList.take k) (he : ((s[k].toNat : Int) != (p[k].toNat : Int)) = false) :
    s.data.toList.take (k + 1) = p.data.toList.take (k + 1) := by
  rw [take_snoc s k hs, take_snoc p k hp, h]
  have : s[k] = p[k] := by
    have h2 : (s[k].toNat : Int) = (p[k].toNat : Int) := by simpa using he
    exact UInt8.toNat_inj.1 (by omega)
  rw [this]

theorem pre_stop (s p : ByteArray) (k : Nat) (hs : k < s.size) (hp : k < p.size) (he : ((s[k].toNat : Int) != (p[k].toNat : Int)) = true) :
    Lib.hasPrefix s.data.toList p.data.toList = false := by
  rw [← Lib.hasPrefix_of_take]
  rw [Bool.and_eq_false_iff]
  right
  rw [beq_eq_false_iff_ne]
  intro h
  rw [bne_iff_ne] at he
  apply he
  have h1 : (s.data.toList.take p.data.toList.length)[k]? = p.data.toList[k]? := by rw [h]
  rw [List.getElem?_take_of_lt (by rw [← Lib.size_eq]; exact hp)] at h1
  have h2 : s.data.toList[k]? = some s[k] := by rw [List.getElem?_eq_getElem (by rw [← Lib.size_eq]; exact hs)]; rfl
  have h3 : p.data.toList[k]? = some p[k] := by rw [List.getElem?_eq_getElem (by rw [← Lib.size_eq]; exact hp)]; rfl
  rw [h2, h3] at h1
  rw [Option.some.inj h1]

theorem pre_end (s p : ByteArray) (hsz : p.size ≤ s.size) (h : s.data.toList.take p.size = p.data.toList.take p.size) :
    Lib.hasPrefix s.data.toList p.data.toList = true := by
  rw [← Lib.hasPrefix_of_take, ← Lib.size_eq, ← Lib.size_eq, h]
  rw [List.take_of_length_le (by rw [← Lib.size_eq]; exact Nat.le_refl _)]
  simp [hsz]

theorem pre_short (s p : ByteArray) (hsz : s.size < p.size) : Lib.hasPrefix s.data.toList p.data.toList = false := by
  rw [← Lib.hasPrefix_of_take, ← Lib.size_eq, ← Lib.size_eq]
  simp; omega

set_option maxHeartbeats 1000000 in
/-- The law's own hasPrefix (function 10). -/
theorem ownPrefix_any (s p : ByteArray) (w : World) (hs : s.size ≤ 1048576) (_hp : p.size ≤ 1048577) :
    Calls Try.prog 10 #[.string s, .string p] w fun e w' => e = .returned (.bool (Lib.hasPrefix s.data.toList p.data.toList)) ∧ ∃ n, w' = w.drewN n := by
  by_cases hsz : s.size < p.size
  · have h0 := pre_short s p hsz
    rw [h0]
    clear h0
    go_enter Try.func10, Try.ntmps10
    go_wp2
    go_ret
    exact ⟨rfl, 0, rfl⟩
  · generalize hb : Lib.hasPrefix s.data.toList p.data.toList = b
    have HB : Hid (Lib.hasPrefix s.data.toList p.data.toList = b) := hb
    clear hb
    go_enter Try.func10, Try.ntmps10
    go_wp2
    go_loopw [5] (fun i wr => ∃ k n : Nat, k ≤ p.size ∧ i = .int .i64 k ∧ Hid (s.data.toList.take k = p.data.toList.take k) ∧ wr = w.drewN n) (fun i _ => p.size - (intOf i).toNat)
    case atStart => exact ⟨0, 0, Nat.zero_le _, rfl, by simp [Hid], rfl⟩
    case round =>
      obtain ⟨k, n, hk, rfl, HT, rfl⟩ := hrel
      by_cases hlt : k < p.size
      · have hks : k < s.size := by omega
        go_wp2_with fail
        go_quiet (fail)
        go_wp2
        · go_ret
          exact ⟨by rw [← HB.out, pre_stop s p k hks hlt (by assumption)]; rfl, _, World.drewN_drewN ..⟩
        · go_roundw
          case rel => exact ⟨k + 1, _, by omega, by go_num, pre_step s p k hks hlt HT.out (by assumption), rfl⟩
          case measure => simp [intOf]; omega
      · go_wp2
        go_ret
        obtain rfl : k = p.size := by omega
        exact ⟨by rw [← HB.out, pre_end s p (by omega) HT.out]; rfl, n, rfl⟩
set_option maxHeartbeats 1000000 in
/-- lessFolder (function 7). -/
theorem lessFolder_any (m x : ByteArray) (w : World) (hm : m.size ≤ 262144) (hx : x.size ≤ 262144) :
    Calls Try.prog 7 #[.string m, .string x] w fun e w' => e = .returned (.string ⟨(Lib.trimPrefix x.data.toList (m.data.toList ++ [47])).toArray⟩) ∧ ∃ n, w' = w.drewN n := by
  have hd : (m ++ { data := #[47] } : ByteArray).data.toList = m.data.toList ++ [47] := data_app _ _
  have hz : (m ++ { data := #[47] } : ByteArray).size = m.size + 1 := by rw [ByteArray.size_append]; rfl
  rw [← hd]
  clear hd
  have hc := ownPrefix_any x (m ++ { data := #[47] }) w (by omega) (by omega)
  cases hb : Lib.hasPrefix x.data.toList (m ++ { data := #[47] } : ByteArray).data.toList
  · rw [hb] at hc
    have ht : Lib.trimPrefix x.data.toList (m ++ { data := #[47] } : ByteArray).data.toList = x.data.toList := by unfold Lib.trimPrefix; rw [hb]; rfl
    rw [ht, Lib.mk_data]
    clear ht hb hz
    go_enter Try.func7, Try.ntmps7
    go_wp2_with (go_at_call 10; refine hc.mono ?_; rintro e w' ⟨rfl, n, rfl⟩)
    go_ret
    exact ⟨rfl, _, rfl⟩
  · have hle : m.size + 1 ≤ x.size := by
      have h := hb
      rw [← Lib.hasPrefix_of_take, Bool.and_eq_true, decide_eq_true_eq, ← Lib.size_eq, ← Lib.size_eq, hz] at h
      exact h.1
    rw [hb] at hc
    have ht : (⟨(Lib.trimPrefix x.data.toList (m ++ { data := #[47] } : ByteArray).data.toList).toArray⟩ : ByteArray) = x.extract (m.size + 1) x.size := by
      have h := hb
      rw [← Lib.hasPrefix_raw, Bool.and_eq_true] at h
      rw [Lib.trimPrefix_hit _ _ (by omega) h.2, hz]
    rw [ht]
    clear ht hb
    go_enter Try.func7, Try.ntmps7
    go_wp2_with (go_at_call 10; refine hc.mono ?_; rintro e w' ⟨rfl, n, rfl⟩)
    go_ret
    exact ⟨rfl, _, rfl⟩

/-! ### The plain law -/
/-- A prefix that ends in a byte other than those of e is a prefix of x ++ e only if it is one of x. -/
theorem pre_app (p x e : List UInt8) (c : UInt8) (hc : c ∉ e) : Lib.hasPrefix (x ++ e) (p ++ [c]) = Lib.hasPrefix x (p ++ [c]) := by
  unfold Lib.hasPrefix
  rw [Bool.eq_iff_iff, List.isPrefixOf_iff_prefix, List.isPrefixOf_iff_prefix]
  constructor
  · intro h
    by_cases hl : (p ++ [c]).length ≤ x.length
    · exact List.prefix_of_prefix_length_le h (List.prefix_append x e) hl
    · exfalso
      have hi : (x ++ e)[p.length]? = some c := by
        obtain ⟨t, ht⟩ := h
        rw [← ht]
        simp
      simp only [List.length_append, List.length_cons, List.length_nil] at hl
      rw [List.getElem?_append_right (by omega)] at hi
      exact hc (List.mem_of_getElem? hi)
  · intro h
    exact h.trans (List.prefix_append x e)

theorem trim_app (p x e : List UInt8) (c : UInt8) (hc : c ∉ e) : Lib.trimPrefix (x ++ e) (p ++ [c]) = Lib.trimPrefix x (p ++ [c]) ++ e := by
  unfold Lib.trimPrefix
  rw [pre_app p x e c hc]
  cases hb : Lib.hasPrefix x (p ++ [c])
  · rfl
  · unfold Lib.hasPrefix at hb
    rw [List.isPrefixOf_iff_prefix] at hb
    rw [if_pos rfl, if_pos rfl, List.drop_append_of_le_length hb.length_le]

theorem stem_h (m x : List UInt8) : stem m (x ++ [46, 104]) = Lib.trimPrefix x (m ++ [47]) := by
  unfold stem
  rw [trim_app m x _ 47 (by decide), trimSuffix_app]

theorem stem_hpp (m x : List UInt8) : stem m (x ++ [46, 104, 112, 112]) = Lib.trimPrefix x (m ++ [47]) ++ [46, 104, 112, 112] := by
  unfold stem
  rw [trim_app m x _ 47 (by decide)]
  generalize Lib.trimPrefix x (m ++ [47]) = t
  have h : Lib.hasSuffix (t ++ [46, 104, 112, 112]) [46, 104] = false := by
    rw [← Lib.hasSuffix_of_drop, Bool.and_eq_false_iff]
    right
    have e : (t ++ [46, 104, 112, 112]).length - [(46 : UInt8), 104].length = t.length + 2 := by simp
    rw [e, List.drop_length_add_append]
    rfl
  unfold Lib.trimSuffix
  rw [h]; rfl
end Go.Proofs.Qxb6612714a
