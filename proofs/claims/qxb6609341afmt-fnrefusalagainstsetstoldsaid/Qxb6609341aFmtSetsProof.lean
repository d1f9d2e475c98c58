/- The proof of 'Rows.FnRefusalAgainstSetsToldSaid'. -/
import Derived.Test.Qxb6609341aFmtRows
import Derived.Test.Qxb6609341aFmtCards
import Derived.Test.Qxb6609341aFmtSetsOut
import Derived.SliceStrings
import Derived.Deep.Slices
import Derived.ProofKit
import Derived.OpenVars
import Derived.OpenShut
import Derived.ShutString
import Derived.SevenToldRow
import Derived.Stop.JoinedTold
namespace Go.Proofs.Qxb6609341aFmt.SetsProof
open Go.ChangeShapes Go.WideShapes Go.ChangeAt Go.RowKit
open Go.ChangeMaps (open_string shut_string)
open Go.Extern.Stop Go.Stop Go.Extern

theorem own : ownKnob Tryf.prog.godebug = none := by kernel_rfl
theorem laidOut : laidOutB Tryf.prog = true := by kernel_rfl
abbrev spec : OpenSpec := OpenSpec.ofChange Rows.fnRefusalAgainstSetsSpec

/-- Two cells read. -/
theorem cells_two {w : World} {a : Addr} {cs : List Value} (h : w.cells? 0 a 2 = some cs) : ∃ c0 c1, cs = [c0, c1] ∧ w.cell? (a.add 0) = some c0 ∧ w.cell? (a.add 1) = some c1 := by
  unfold World.cells? at h
  rw [if_pos (Nat.zero_le _)] at h
  simp [List.range, List.range.loop] at h
  cases h0 : w.cell? (a.add 0) with
  | none => simp [h0] at h
  | some c0 =>
    cases h1 : w.cell? (a.add 1) with
    | none => simp [h0, h1] at h
    | some c1 => simp [h0, h1] at h; exact ⟨c0, c1, h.symm, rfl, rfl⟩

theorem cells9 : Tryf.prog.cellsOf 9 = 1 := by kernel_rfl
theorem cells30 : Tryf.prog.cellsOf 30 = 2 := by kernel_rfl

theorem list_of {α : Type} (dflt : α) (Q : Nat → α → Prop) : ∀ n : Nat, (∀ i, i < n → ∃ p, Q i p) → ∃ l : List α, l.length = n ∧ ∀ i, i < n → Q i (l.getD i dflt)
  | 0, _ => ⟨[], rfl, fun i hi => by omega⟩
  | n + 1, h => by
    obtain ⟨l, hl, hq⟩ := list_of dflt Q n (fun i hi => h i (by omega))
    obtain ⟨p, hp⟩ := h n (by omega)
    refine ⟨l ++ [p], by simp [hl], fun i hi => ?_⟩
    by_cases e : i = n
    · subst e
      rw [List.getD_eq_getElem?_getD, List.getElem?_append_right (by omega)]
      simpa [hl] using hp
    · rw [List.getD_eq_getElem?_getD, List.getElem?_append_left (by omega), ← List.getD_eq_getElem?_getD]
      exact hq i (by omega)

/-- A slice of strings, opened for the walk. -/
theorem str_row {H : Type} {enc : TypeId × Value → H} {W : World} {base : Nat} {v : Value} {d : DataW H} {p : List MemPlace} (hok : Value.okWide Tryf.prog W .any base 27 v) (h : DataW.Trod enc Tryf.prog W 0 (fun _ => true) true 27 v d p) :
    ∃ sa cap ss, v = .slice sa (ss : List ByteArray).length cap ∧ ss.length ≤ maxLen ∧ StrRow W sa ss := by
  obtain ⟨sa, len, cap, rfl⟩ := okWide_slice Tryf.underlying27 hok
  obtain ⟨fuel, hf⟩ := h
  rcases open_strings Tryf.underlying27 Tryf.underlying9 cells9 hf with ⟨hcs, _⟩ | ⟨x, l, c, ss, hcs, _, hl, hm, hz, _, hcell, _⟩
  · simp [Value.cells] at hcs
    obtain ⟨rfl, rfl, rfl⟩ := hcs
    exact ⟨none, 0, [], rfl, Nat.zero_le _, fun k hk => by simp at hk⟩
  · simp [Value.cells] at hcs
    obtain ⟨rfl, rfl, rfl⟩ := hcs
    simp at hz
    have hlen : (ss.take len).length = len := by rw [List.length_take]; omega
    refine ⟨some x, cap, ss.take len, by rw [hlen], by omega, fun k hk => ?_⟩
    rw [hlen] at hk ⊢
    obtain ⟨b, off, spot⟩ := x
    have hspot : spot = none := by simpa [Addr.add] using World.cell?_spot (hcell 0 (by omega))
    subst hspot
    refine ⟨b, off, rfl, World.block_lt_of_cell? _ _ (hcell 0 (by omega)), fun j hj => ?_⟩
    rw [← add_plain, hcell j (by omega)]
    congr 2
    simp [List.getD, hj]

/-- A slice of pairs of strings, opened for the walk. -/
theorem pair_row {H : Type} {enc : TypeId × Value → H} {W : World} {base : Nat} {v : Value} {d : DataW H} {p : List MemPlace} (hok : Value.okWide Tryf.prog W .any base 28 v) (h : DataW.Trod enc Tryf.prog W 0 (fun _ => true) true 28 v d p) :
    ∃ pa cap ps, v = .slice pa (ps : List (ByteArray × ByteArray)).length cap ∧ ps.length ≤ maxLen ∧ PairRow W pa ps := by
  obtain ⟨sa, len, cap, rfl⟩ := okWide_slice Tryf.underlying28 hok
  obtain ⟨fuel, hf⟩ := h
  rcases Go.Deep.open_slice Tryf.underlying28 hf with ⟨hcs, _⟩ | ⟨x, l, c, m, n, D, Pl, hcs, _, hl, hm, hmm, _, hel⟩
  · simp [Value.cells] at hcs
    obtain ⟨rfl, rfl, rfl⟩ := hcs
    exact ⟨none, 0, [], rfl, Nat.zero_le _, fun k hk => by simp at hk⟩
  · simp [Value.cells] at hcs
    obtain ⟨rfl, rfl, rfl⟩ := hcs
    simp at hmm
    have each : ∀ i, i < len → ∃ q : ByteArray × ByteArray, W.cell? (x.add (i * 2)) = some (.string q.1) ∧ W.cell? ((x.add (i * 2)).add 1) = some (.string q.2) := by
      intro i hi
      obtain ⟨cs', h1, h2⟩ := hel i (by omega)
      rw [cells30] at h1
      obtain ⟨c0, c1, rfl, g0, g1⟩ := cells_two h1
      obtain ⟨xs, m', _, _, _, hxl, hx⟩ := DataW.trod_array Tryf.underlying30 h2
      have e0 := hx 0 (by omega)
      have e1 := hx 1 (by omega)
      rw [cells9] at e0 e1
      match xs, hxl, e0, e1 with
      | [y0, y1], _, e0, e1 =>
        obtain ⟨s0, k0, _, _⟩ := DataW.trod_string Tryf.underlying9 (show DataW.trod _ Tryf.prog W 0 _ true m' 9 _ = some y0 from e0)
        obtain ⟨s1, k1, _, _⟩ := DataW.trod_string Tryf.underlying9 (show DataW.trod _ Tryf.prog W 0 _ true m' 9 _ = some y1 from e1)
        simp at k0 k1
        subst k0
        subst k1
        have hz : ∀ y : Addr, y.add 0 = y := fun y => rfl
        rw [hz] at g0
        exact ⟨(s0, s1), g0, g1⟩
    obtain ⟨ps, hpl, hps⟩ := list_of (ByteArray.empty, ByteArray.empty) _ len each
    subst hpl
    refine ⟨some x, cap, ps, rfl, by omega, fun k hk => ?_⟩
    obtain ⟨b, off, spot⟩ := x
    have hspot : spot = none := by simpa [Addr.add] using World.cell?_spot (hps 0 (by omega)).1
    subst hspot
    refine ⟨b, off, rfl, ?_, fun j hj => ?_⟩
    · have := World.block_lt_of_cell? _ _ (hps 0 (by omega)).1
      simpa [Addr.add] using this
    · have := hps j hj
      rw [add_plain, add_plain] at this
      exact this

set_option maxRecDepth 100000 in
theorem lifted (os : Os) (started : os.Started) (H : Type) (enc : TypeId × Value → H) :
    ReturnsInTold none {} Tryf.checked os 4 .any Input.okWide (spec.preRow enc Tryf.prog Tryf.f4 [] false []) (fun F => (spec.at F).post enc Tryf.prog Tryf.f4 false true false false) (aloneAtReturn Tryf.prog) nothingAlways := by
  refine returnsInTold_of_row (C := Tryf.checked) (s := spec) (by kernel_rfl) own started (by kernel_rfl) Tryf.func4
    (OpenSpec.witness_stopped (enc := enc) (C := Tryf.checked) (os := os) false ⟨#[], #[.slice none 0 0, .slice none 0 0, .string ByteArray.empty, .string ByteArray.empty, .string ByteArray.empty, .bool false], []⟩ 8 (by kernel_rfl) (by kernel_rfl) (by kernel_rfl) (by kernel_rfl)) ?_
  intro F W base args ds gs before _ hF hval0 hW _ _ _ _ _
  have hval : ∀ (j : Nat) t v, Tryf.f4.params[j]? = some t → args[j]? = some v → Value.okWide Tryf.prog W .any base t v := hval0
  have hW' := hW
  obtain ⟨p, q, hA0, hV, rfl, hfz, hnd⟩ := hW
  have hA : DataW.TrodAll enc Tryf.prog W 0 (fun _ => true) true Tryf.f4.params.toList args.toList ds p := hA0
  rw [Tryf.params4] at hA hval
  obtain ⟨v0, vs0, d0, ds0, p0, q0, hargs, rfl, rfl, h0, r0⟩ := trodAll_cons hA
  obtain ⟨v1, vs1, d1, ds1, p1, q1, rfl, rfl, rfl, h1, r1⟩ := trodAll_cons r0
  obtain ⟨v2, vs2, d2, ds2, p2, q2, rfl, rfl, rfl, h2, r2⟩ := trodAll_cons r1
  obtain ⟨v3, vs3, d3, ds3, p3, q3, rfl, rfl, rfl, h3, r3⟩ := trodAll_cons r2
  obtain ⟨v4, vs4, d4, ds4, p4, q4, rfl, rfl, rfl, h4, r4⟩ := trodAll_cons r3
  obtain ⟨v5, vs5, d5, ds5, p5, q5, rfl, rfl, rfl, h5, r5⟩ := trodAll_cons r4
  obtain ⟨rfl, rfl, rfl⟩ := trodAll_nil r5
  obtain rfl : args = #[v0, v1, v2, v3, v4, v5] := by cases args; simp_all
  obtain ⟨rfl, rfl⟩ := trodVars_none hV
  have lt0 : ∀ x ∈ p0, x.block < W.heap.size := by obtain ⟨m, hm⟩ := h0; exact DataW.trod_lt m _ _ _ hm
  have lt1 : ∀ x ∈ p1, x.block < W.heap.size := by obtain ⟨m, hm⟩ := h1; exact DataW.trod_lt m _ _ _ hm
  obtain ⟨sa, cap, ss, rfl, hl1, hS⟩ := str_row (hval 0 27 v0 rfl rfl) h0
  obtain ⟨pa, cap', ps, rfl, hl2, hP⟩ := pair_row (hval 1 28 v1 rfl rfl) h1
  obtain ⟨a2, rfl, rfl, rfl, w2⟩ := open_string Tryf.underlying9 (hval 2 9 v2 rfl rfl) h2
  obtain ⟨a3, rfl, rfl, rfl, w3⟩ := open_string Tryf.underlying9 (hval 3 9 v3 rfl rfl) h3
  obtain ⟨a4, rfl, rfl, rfl, w4⟩ := open_string Tryf.underlying9 (hval 4 9 v4 rfl rfl) h4
  obtain ⟨a5, rfl, rfl, rfl⟩ := open_bool Tryf.underlying4 (hval 5 4 v5 rfl rfl) h5
  clear hA0 hval0
  refine (law_any F.told sa pa cap cap' ss ps a2 a3 a4 a5 W hF hl1 hl2 w2 w3 w4 hS hP).mono fun e W' ⟨he, hB⟩ => ?_
  subst he
  exact ⟨_, rfl, _, _, _, [], _, [], hW', trodAll_mk1 (shut_bool Tryf.underlying4 _), (trodAll_cons_mk (Below.trod laidOut (by kernel_rfl) (of_decide_eq_true (by kernel_rfl)) h0 hB lt0) (trodAll_cons_mk (Below.trod laidOut (by kernel_rfl) (of_decide_eq_true (by kernel_rfl)) h1 hB lt1) (trodAll_cons_mk (shut_string Tryf.underlying9 w2) (trodAll_cons_mk (shut_string Tryf.underlying9 w3) (trodAll_cons_mk (shut_string Tryf.underlying9 w4) (trodAll_cons_mk (shut_bool Tryf.underlying4 _) trodAll_mk0)))))), rfl, hB.frame _, fun h => by cases h⟩

theorem quiet (os : Os) : Stop.quiet Tryf.pinned.checked.prog os := by
  intro k hk
  rw [show Tryf.pinned.checked.prog.stopKnobs = [] from by kernel_rfl] at hk
  cases hk

theorem proved : Rows.FnRefusalAgainstSetsToldSaid :=
  Claim7.holds_of_told_any 4 Tryf.f4 _ _ [] _ _ _ (by kernel_rfl) rfl rfl rfl laidOut (by kernel_rfl) rfl ⟨rfl, rfl, rfl, rfl, rfl, rfl, rfl⟩ rfl rfl (by kernel_rfl) (by kernel_rfl) Tryf.func4 (by kernel_rfl)
    (of_decide_eq_true (by kernel_rfl)) (by unfold Func.isWrapper; first | (rw [if_pos (by decide +kernel)]; kernel_rfl) | (rw [if_neg (by decide +kernel)]; exact ⟨rfl, rfl⟩)) (by kernel_rfl) rfl (by kernel_rfl) (by kernel_rfl)
    (by kernel_rfl) (by kernel_rfl) (by kernel_rfl) (by kernel_rfl) (by kernel_rfl) (by kernel_rfl) (by kernel_rfl) (by kernel_rfl) (by kernel_rfl) rfl (by kernel_rfl) rfl rfl
    rfl rfl
    rfl (by kernel_rfl) (by kernel_rfl) (by kernel_rfl) (by decide) (by kernel_rfl)
    (OpenClaim.moreEntering_of (by kernel_rfl) (by kernel_rfl) (by kernel_rfl) (by kernel_rfl) (by kernel_rfl) (by kernel_rfl) (by kernel_rfl) (by kernel_rfl) (by kernel_rfl) (by kernel_rfl))
    ⟨_, WideRow.started_initial, quiet _⟩
    (fun os started _ H enc _ => lifted os started H enc)
end Go.Proofs.Qxb6609341aFmt.SetsProof
