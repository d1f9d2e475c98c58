/- The proof of 'Rows.FnPairStemHppKeepsItsOwnPairSaid'. The frame is the kit's shell for this function; the walks and the plain law are ours (Qxb6612714aStrs.lean, Qxb6612714aPre.lean). -/
import Derived.Test.Qxb6612714aRows
import Derived.WalkKit
import Derived.ProofKit
import Derived.OpenShut
import Derived.ShutString
import Derived.WalkSpells
import Derived.WalkLawsBesides
import Derived.Test.Qxb6612714aStrs
import Derived.Test.Qxb6612714aPre
namespace Go.Proofs.Qxb6612714a.fnPairStemHppKeepsItsOwnPair
open Go.ChangeShapes Go.WideShapes Go.ChangeAt Go.RowKit
open Go.ChangeMaps (open_string shut_string)
set_option linter.unusedVariables false      -- a walk need not use every 'w<i>' (that an integer argument fits its kind)

theorem own : ownKnob Try.prog.godebug = none := by kernel_rfl

/-! ### THE BOUND (function 5) -/
set_option maxHeartbeats 1000000 in
theorem bytes_any (a0 a1 : ByteArray) (w0 : a0.size ≤ maxLen) (w1 : a1.size ≤ maxLen) (w : World) :
    Calls Try.prog 5 #[.string a0, .string a1] w fun e w' => (∃ b, e = .returned (.bool b)) ∧ w' = w := by
  unfold maxLen at w0 w1
  go_enter Try.func5, Try.ntmps5
  go_wp2
  all_goals (go_ret; exact ⟨⟨_, rfl⟩, rfl⟩)

set_option maxHeartbeats 1000000 in
theorem bytes_true (a0 a1 : ByteArray) (w0 : a0.size ≤ 262144) (w1 : a1.size ≤ 262144) (w : World) :
    Calls Try.prog 5 #[.string a0, .string a1] w fun e w' => e = .returned (.bool true) ∧ w' = w := by
  go_enter Try.func5, Try.ntmps5
  go_wp2
  all_goals (go_ret; exact ⟨rfl, rfl⟩)

/-! ### THE CALLS, all three over one name for x less the folder -/
def less (m x : ByteArray) : ByteArray := ⟨(Lib.trimPrefix x.data.toList (m.data.toList ++ [47])).toArray⟩
theorem less_size (m x : ByteArray) : (less m x).size ≤ x.size := by
  have := Lib.trimPrefix_le x.data.toList (m.data.toList ++ [47])
  rw [← Lib.size_eq] at this
  show (Lib.trimPrefix x.data.toList (m.data.toList ++ [47])).toArray.size ≤ _
  rw [List.size_toArray]; exact this

theorem stem_h_any (m x : ByteArray) (hm : m.size ≤ 262144) (hx : x.size ≤ 262144) (w : World) :
    Calls Try.prog 6 #[.string m, .string (x ++ { data := #[46, 104] })] w fun e w' => e = .returned (.string (less m x)) ∧ w' = w := by
  have h := zzPairStem_any m (x ++ { data := #[46, 104] }) w (by omega) (by rw [ByteArray.size_append]; show _ + 2 ≤ _; omega)
  rw [data_app, show (({ data := #[46, 104] } : ByteArray).data.toList) = [46, 104] from rfl, stem_h] at h
  exact h

theorem stem_hpp_any (m x : ByteArray) (hm : m.size ≤ 262144) (hx : x.size ≤ 262144) (w : World) :
    Calls Try.prog 6 #[.string m, .string (x ++ { data := #[46, 104, 112, 112] })] w fun e w' => e = .returned (.string (less m x ++ { data := #[46, 104, 112, 112] })) ∧ w' = w := by
  have h := zzPairStem_any m (x ++ { data := #[46, 104, 112, 112] }) w (by omega) (by rw [ByteArray.size_append]; show _ + 4 ≤ _; omega)
  rw [data_app, show (({ data := #[46, 104, 112, 112] } : ByteArray).data.toList) = [46, 104, 112, 112] from rfl, stem_hpp] at h
  have e : (⟨(Lib.trimPrefix x.data.toList (m.data.toList ++ [47]) ++ [46, 104, 112, 112]).toArray⟩ : ByteArray) = less m x ++ { data := #[46, 104, 112, 112] } := by
    apply ByteArray.ext
    rw [ByteArray.data_append]
    apply Array.toList_inj.1
    simp [less]
  rw [e] at h
  exact h

theorem less_any (m x : ByteArray) (hm : m.size ≤ 262144) (hx : x.size ≤ 262144) (w : World) :
    Calls Try.prog 7 #[.string m, .string x] w fun e w' => e = .returned (.string (less m x)) ∧ ∃ n, w' = w.drewN n := lessFolder_any m x w hm hx

theorem grown_drewN (w : World) (n : Nat) : Grown w (w.drewN n) := Grown.refl w

/-! ### THE WALK -/
set_option maxHeartbeats 1000000 in
theorem walk_in (a0 : ByteArray) (a1 : ByteArray) (b0 : a0.size ≤ 262144) (b1 : a1.size ≤ 262144) (w : World) :
    Calls Try.prog 3 #[.string a0, .string a1] w fun e w' => e = .returned (.bool true) ∧ Grown w w' := by
  have c1 := stem_h_any a0 a1 b0 b1
  have c2 := stem_hpp_any a0 a1 b0 b1
  have c3 := less_any a0 a1 b0 b1
  have hz : (less a0 a1).size ≤ 262144 := Nat.le_trans (less_size a0 a1) b1
  generalize less a0 a1 = t at *
  have C1 := c1; have C2 := c2; have C3 := c3
  clear c1 c2 c3
  go_enter Try.func3, Try.ntmps3
  go_wp2_with fail
  refine (bytes_true _ _ b0 b1 _).mono ?_
  rintro e w' ⟨rfl, rfl⟩
  go_wp2_with fail
  refine (C1 _).mono ?_
  rintro e w' ⟨rfl, rfl⟩
  go_wp2_with fail
  refine (C2 _).mono ?_
  rintro e w' ⟨rfl, rfl⟩
  go_wp2_with fail
  refine (C3 _).mono ?_
  rintro e w' ⟨rfl, n, rfl⟩
  go_wp2
  go_ret
  exact ⟨by simp, grown_drewN _ _⟩

set_option maxHeartbeats 1000000 in
theorem walk_out (a0 : ByteArray) (a1 : ByteArray) (w0 : a0.size ≤ maxLen) (w1 : a1.size ≤ maxLen) (h : 262144 < a0.size ∨ a0.size ≤ 262144 ∧ 262144 < a1.size) (w : World) :
    Calls Try.prog 3 #[.string a0, .string a1] w fun e w' => e = .returned (.bool true) ∧ Grown w w' := by
  rcases h with h | ⟨g0, h⟩
  all_goals
    go_enter Try.func3, Try.ntmps3
    go_wp2_with fail
    refine (bytes_any _ _ w0 w1 _).mono ?_
    rintro e w' ⟨⟨b, rfl⟩, rfl⟩
    cases b
    all_goals (go_wp2; go_ret; exact ⟨rfl, Grown.refl _⟩)

/-- THE WALK, whatever the two strings. -/
theorem walk (a0 : ByteArray) (a1 : ByteArray) (w0 : a0.size ≤ maxLen) (w1 : a1.size ≤ maxLen) (w : World) :
    Calls Try.prog 3 #[.string a0, .string a1] w fun e w' => e = .returned (.bool true) ∧ Grown w w' := by
  by_cases h0 : a0.size ≤ 262144
  · by_cases h1 : a1.size ≤ 262144
    · exact walk_in a0 a1 h0 h1 w
    · exact walk_out a0 a1 w0 w1 (Or.inr ⟨h0, by omega⟩) w
  · exact walk_out a0 a1 w0 w1 (Or.inl (by omega)) w

/-! ### THE ROW's STEP: WRITTEN OUT: LEAVE IT -/
set_option maxRecDepth 100000 in
theorem lifted (os : Os) (started : os.Started) (H : Type) (enc : TypeId × Value → H) :
    ReturnsInHanded {} Try.checked os 3 .any (Rows.fnPairStemHppKeepsItsOwnPairSpec.pre6 enc Try.prog Try.f3 Rows.fnPairStemHppKeepsItsOwnPairRow.domain false) (Rows.fnPairStemHppKeepsItsOwnPairSpec.post enc Try.prog Try.f3 false true false false) := by
  refine returnsInHanded_of_change (C := Try.checked) own started (by kernel_rfl) Try.func3
    (ChangeSpec.witness6 (enc := enc) (C := Try.checked) false ⟨#[], #[.string ByteArray.empty, .string ByteArray.empty], []⟩ 8 (by kernel_rfl) (by kernel_rfl) (by kernel_rfl) (by kernel_rfl)) ?_
  intro W base args ds gs before hval0 hW hcnd _
  have hval : ∀ (j : Nat) t v, Try.f3.params[j]? = some t → args[j]? = some v → Value.okWide Try.prog W .any base t v := hval0
  have hW' := hW
  obtain ⟨p, q, hA0, hV, rfl, hfz, hnd⟩ := hW
  have hA : DataW.TrodAll enc Try.prog W 0 (fun _ => true) true Try.f3.params.toList args.toList ds p := hA0
  rw [Try.params3] at hA hval
  obtain ⟨v0, vs0, d0, ds0, p0, q0, hargs, rfl, rfl, h0, r0⟩ := trodAll_cons hA
  obtain ⟨v1, vs1, d1, ds1, p1, q1, rfl, rfl, rfl, h1, r1⟩ := trodAll_cons r0
  obtain ⟨rfl, rfl, rfl⟩ := trodAll_nil r1
  obtain rfl : args = #[v0, v1] := by cases args; simp_all
  obtain ⟨rfl, rfl⟩ := trodVars_none hV
  obtain ⟨a0, rfl, rfl, rfl, w0⟩ := open_string Try.underlying9 (hval 0 9 v0 rfl rfl) h0
  obtain ⟨a1, rfl, rfl, rfl, w1⟩ := open_string Try.underlying9 (hval 1 9 v1 rfl rfl) h1
  clear hA0 hval0
  simp only [List.append_nil] at hW'
  refine (walk a0 a1 w0 w1 W).mono fun e W' ⟨he, hg⟩ => ?_
  subst he
  exact ⟨_, rfl, post_of_same (pa := []) (pv := []) hW' (fun _ _ _ => (trodAll_cons_mk (shut_bool Try.underlying4 _) trodAll_mk0)) (fun sp _ => (trodAll_cons_mk (shut_string Try.underlying9 w0) (trodAll_cons_mk (shut_string Try.underlying9 w1) trodAll_mk0))) (fun _ _ => rfl) rfl
    (hg.frame _) hg.2.1 (ok_one (by kernel_rfl) rfl (okWide_bool_mk Try.underlying4 _))⟩

theorem over : Rows.fnPairStemHppKeepsItsOwnPairRow.holds Try.pinned (OpenSpec.ofChange Rows.fnPairStemHppKeepsItsOwnPairSpec) :=
  OpenClaim.holds_of_wide 3 Try.f3 rfl rfl rfl rfl rfl rfl rfl ⟨rfl, rfl, rfl, rfl, rfl⟩ rfl rfl rfl rfl rfl (by kernel_rfl) Try.func3 (by kernel_rfl)
    (of_decide_eq_true (by kernel_rfl)) (by unfold Func.isWrapper; first | (rw [if_pos (by decide +kernel)]; kernel_rfl) | (rw [if_neg (by decide +kernel)]; exact ⟨rfl, rfl⟩))
    (fun os started H enc _ => lifted os started H enc)

/-- ████ THE STATEMENT ████ -/
theorem proved : Rows.FnPairStemHppKeepsItsOwnPairSaid :=
  over
end Go.Proofs.Qxb6612714a.fnPairStemHppKeepsItsOwnPair
