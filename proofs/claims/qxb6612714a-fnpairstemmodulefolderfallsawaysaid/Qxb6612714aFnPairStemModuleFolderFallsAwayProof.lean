/- The proof of 'Rows.FnPairStemModuleFolderFallsAwaySaid'. The frame is the kit's shell for this function; the walk and the plain law are ours (Qxb6612714aStrs.lean). -/
import Derived.Test.Qxb6612714aRows
import Derived.WalkKit
import Derived.ProofKit
import Derived.OpenShut
import Derived.ShutString
import Derived.WalkSpells
import Derived.WalkLawsBesides
import Derived.Test.Qxb6612714aStrs
namespace Go.Proofs.Qxb6612714a.fnPairStemModuleFolderFallsAway
open Go.ChangeShapes Go.WideShapes Go.ChangeAt Go.RowKit
open Go.ChangeMaps (open_string shut_string)
set_option linter.unusedVariables false      -- a walk need not use every 'w<i>' (that an integer argument fits its kind)

theorem own : ownKnob Try.prog.godebug = none := by kernel_rfl

/-! ### THE BOUND (function 8) -/
set_option maxHeartbeats 1000000 in
theorem bytes_any (a0 a1 a2 : ByteArray) (w0 : a0.size ≤ maxLen) (w1 : a1.size ≤ maxLen) (w2 : a2.size ≤ maxLen) (w : World) :
    Calls Try.prog 8 #[.string a0, .string a1, .string a2] w fun e w' => (∃ b, e = .returned (.bool b)) ∧ w' = w := by
  unfold maxLen at w0 w1 w2
  go_enter Try.func8, Try.ntmps8
  go_wp2
  all_goals (go_ret; exact ⟨⟨_, rfl⟩, rfl⟩)

set_option maxHeartbeats 1000000 in
theorem bytes_true (a0 a1 a2 : ByteArray) (w0 : a0.size ≤ 262144) (w1 : a1.size ≤ 262144) (w2 : a2.size ≤ 262144) (w : World) :
    Calls Try.prog 8 #[.string a0, .string a1, .string a2] w fun e w' => e = .returned (.bool true) ∧ w' = w := by
  go_enter Try.func8, Try.ntmps8
  go_wp2
  all_goals (go_ret; exact ⟨rfl, rfl⟩)

theorem fold_any (m n : ByteArray) (hm : m.size ≤ 262144) (hn : n.size ≤ 262144) (w : World) :
    Calls Try.prog 6 #[.string m, .string (m ++ { data := #[47] } ++ n)] w fun e w' => e = .returned (.string ⟨(Lib.trimSuffix n.data.toList [46, 104]).toArray⟩) ∧ w' = w := by
  have h := zzPairStem_any m (m ++ { data := #[47] } ++ n) w (by omega) (by simp [ByteArray.size_append]; show _ + 1 + _ ≤ _; omega)
  rw [data_app, data_app, show (({ data := #[47] } : ByteArray).data.toList) = [47] from rfl, stem_folder] at h
  exact h

theorem fold_h_any (m n : ByteArray) (hm : m.size ≤ 262144) (hn : n.size ≤ 262144) (w : World) :
    Calls Try.prog 6 #[.string m, .string (m ++ { data := #[47] } ++ n ++ { data := #[46, 104] })] w fun e w' => e = .returned (.string n) ∧ w' = w := by
  have h := zzPairStem_any m (m ++ { data := #[47] } ++ n ++ { data := #[46, 104] }) w (by omega) (by simp [ByteArray.size_append]; show _ + 1 + _ + 2 ≤ _; omega)
  rw [data_app, data_app, data_app, show (({ data := #[47] } : ByteArray).data.toList) = [47] from rfl, show (({ data := #[46, 104] } : ByteArray).data.toList) = [46, 104] from rfl, stem_folder_h, Lib.mk_data] at h
  exact h

/-! ### THE WALK -/
set_option maxHeartbeats 1000000 in
theorem walk_in (a0 : ByteArray) (a1 : ByteArray) (a2 : ByteArray) (b0 : a0.size ≤ 262144) (b1 : a1.size ≤ 262144) (b2 : a2.size ≤ 262144) (w : World) :
    Calls Try.prog 4 #[.string a0, .string a1, .string a2] w fun e w' => e = .returned (.bool true) ∧ Grown w w' := by
  go_enter Try.func4, Try.ntmps4
  go_wp2_with fail
  refine (bytes_true _ _ _ b0 b1 b2 _).mono ?_
  rintro e w' ⟨rfl, rfl⟩
  go_wp2_with fail
  refine (fold_any _ _ b0 b2 _).mono ?_
  rintro e w' ⟨rfl, rfl⟩
  go_wp2_with fail
  refine (fold_any _ _ b1 b2 _).mono ?_
  rintro e w' ⟨rfl, rfl⟩
  go_wp2_with fail
  refine (fold_h_any _ _ b0 b2 _).mono ?_
  rintro e w' ⟨rfl, rfl⟩
  go_wp2
  go_ret
  exact ⟨by simp, Grown.refl _⟩

set_option maxHeartbeats 1000000 in
theorem walk_out (a0 : ByteArray) (a1 : ByteArray) (a2 : ByteArray) (w0 : a0.size ≤ maxLen) (w1 : a1.size ≤ maxLen) (w2 : a2.size ≤ maxLen) (h : 262144 < a0.size ∨ a0.size ≤ 262144 ∧ 262144 < a1.size ∨ a0.size ≤ 262144 ∧ a1.size ≤ 262144 ∧ 262144 < a2.size) (w : World) :
    Calls Try.prog 4 #[.string a0, .string a1, .string a2] w fun e w' => e = .returned (.bool true) ∧ Grown w w' := by
  rcases h with h | ⟨g0, h⟩ | ⟨g0, g1, h⟩
  all_goals
    go_enter Try.func4, Try.ntmps4
    go_wp2_with fail
    refine (bytes_any _ _ _ w0 w1 w2 _).mono ?_
    rintro e w' ⟨⟨b, rfl⟩, rfl⟩
    cases b
    all_goals (go_wp2; go_ret; exact ⟨rfl, Grown.refl _⟩)

/-- THE WALK, whatever the three strings. -/
theorem walk (a0 : ByteArray) (a1 : ByteArray) (a2 : ByteArray) (w0 : a0.size ≤ maxLen) (w1 : a1.size ≤ maxLen) (w2 : a2.size ≤ maxLen) (w : World) :
    Calls Try.prog 4 #[.string a0, .string a1, .string a2] w fun e w' => e = .returned (.bool true) ∧ Grown w w' := by
  by_cases h0 : a0.size ≤ 262144
  · by_cases h1 : a1.size ≤ 262144
    · by_cases h2 : a2.size ≤ 262144
      · exact walk_in a0 a1 a2 h0 h1 h2 w
      · exact walk_out a0 a1 a2 w0 w1 w2 (Or.inr (Or.inr ⟨h0, h1, by omega⟩)) w
    · exact walk_out a0 a1 a2 w0 w1 w2 (Or.inr (Or.inl ⟨h0, by omega⟩)) w
  · exact walk_out a0 a1 a2 w0 w1 w2 (Or.inl (by omega)) w

/-! ### THE ROW's STEP: WRITTEN OUT: LEAVE IT -/
set_option maxRecDepth 100000 in
theorem lifted (os : Os) (started : os.Started) (H : Type) (enc : TypeId × Value → H) :
    ReturnsInHanded {} Try.checked os 4 .any (Rows.fnPairStemModuleFolderFallsAwaySpec.pre6 enc Try.prog Try.f4 Rows.fnPairStemModuleFolderFallsAwayRow.domain false) (Rows.fnPairStemModuleFolderFallsAwaySpec.post enc Try.prog Try.f4 false true false false) := by
  refine returnsInHanded_of_change (C := Try.checked) own started (by kernel_rfl) Try.func4
    (ChangeSpec.witness6 (enc := enc) (C := Try.checked) false ⟨#[], #[.string ByteArray.empty, .string ByteArray.empty, .string ByteArray.empty], []⟩ 8 (by kernel_rfl) (by kernel_rfl) (by kernel_rfl) (by kernel_rfl)) ?_
  intro W base args ds gs before hval0 hW hcnd _
  have hval : ∀ (j : Nat) t v, Try.f4.params[j]? = some t → args[j]? = some v → Value.okWide Try.prog W .any base t v := hval0
  have hW' := hW
  obtain ⟨p, q, hA0, hV, rfl, hfz, hnd⟩ := hW
  have hA : DataW.TrodAll enc Try.prog W 0 (fun _ => true) true Try.f4.params.toList args.toList ds p := hA0
  rw [Try.params4] at hA hval
  obtain ⟨v0, vs0, d0, ds0, p0, q0, hargs, rfl, rfl, h0, r0⟩ := trodAll_cons hA
  obtain ⟨v1, vs1, d1, ds1, p1, q1, rfl, rfl, rfl, h1, r1⟩ := trodAll_cons r0
  obtain ⟨v2, vs2, d2, ds2, p2, q2, rfl, rfl, rfl, h2, r2⟩ := trodAll_cons r1
  obtain ⟨rfl, rfl, rfl⟩ := trodAll_nil r2
  obtain rfl : args = #[v0, v1, v2] := by cases args; simp_all
  obtain ⟨rfl, rfl⟩ := trodVars_none hV
  obtain ⟨a0, rfl, rfl, rfl, w0⟩ := open_string Try.underlying9 (hval 0 9 v0 rfl rfl) h0
  obtain ⟨a1, rfl, rfl, rfl, w1⟩ := open_string Try.underlying9 (hval 1 9 v1 rfl rfl) h1
  obtain ⟨a2, rfl, rfl, rfl, w2⟩ := open_string Try.underlying9 (hval 2 9 v2 rfl rfl) h2
  clear hA0 hval0
  simp only [List.append_nil] at hW'
  refine (walk a0 a1 a2 w0 w1 w2 W).mono fun e W' ⟨he, hg⟩ => ?_
  subst he
  exact ⟨_, rfl, post_of_same (pa := []) (pv := []) hW' (fun _ _ _ => (trodAll_cons_mk (shut_bool Try.underlying4 _) trodAll_mk0)) (fun sp _ => (trodAll_cons_mk (shut_string Try.underlying9 w0) (trodAll_cons_mk (shut_string Try.underlying9 w1) (trodAll_cons_mk (shut_string Try.underlying9 w2) trodAll_mk0)))) (fun _ _ => rfl) rfl
    (hg.frame _) hg.2.1 (ok_one (by kernel_rfl) rfl (okWide_bool_mk Try.underlying4 _))⟩

theorem over : Rows.fnPairStemModuleFolderFallsAwayRow.holds Try.pinned (OpenSpec.ofChange Rows.fnPairStemModuleFolderFallsAwaySpec) :=
  OpenClaim.holds_of_wide 4 Try.f4 rfl rfl rfl rfl rfl rfl rfl ⟨rfl, rfl, rfl, rfl, rfl⟩ rfl rfl rfl rfl rfl (by kernel_rfl) Try.func4 (by kernel_rfl)
    (of_decide_eq_true (by kernel_rfl)) (by unfold Func.isWrapper; first | (rw [if_pos (by decide +kernel)]; kernel_rfl) | (rw [if_neg (by decide +kernel)]; exact ⟨rfl, rfl⟩))
    (fun os started H enc _ => lifted os started H enc)

/-- ████ THE STATEMENT ████ -/
theorem proved : Rows.FnPairStemModuleFolderFallsAwaySaid :=
  over
end Go.Proofs.Qxb6612714a.fnPairStemModuleFolderFallsAway
