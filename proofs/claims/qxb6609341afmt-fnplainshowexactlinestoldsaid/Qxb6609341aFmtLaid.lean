import Derived.Test.Qxb6609341aFmtShow
import Derived.ProofKit
import Derived.LaidMore
import Derived.LaidLaws
import Derived.MakeChecks
namespace Go.Proofs.Qxb6609341aFmt
open Go.ChangeShapes Go.WideShapes Go.RowKit

theorem typeName_named {P : Program} {nm : String} {tp : TypeId}
    (hrows : ((List.range P.types.size).all fun u => P.typeName? 3 u != some nm || u == tp) = true) (hstar : nm.toList.head? ≠ some '*')
    (u : TypeId) (hu : P.typeName? 3 u = some nm) : u = tp := by
  by_cases hlt : u < P.types.size
  · have := List.all_eq_true.1 hrows u (List.mem_range.2 hlt)
    simpa [hu] using this
  · exfalso
    unfold Program.typeName? at hu
    cases hi : P.info? u with
    | none => simp [hi] at hu
    | some i =>
      have hb := Tables.info?_beyond hlt hi
      simp only [hi] at hu
      cases hd : i.desc <;> simp only [hd, TypeDesc.tableOnly] at hu hb <;> try cases hb
      all_goals try cases hu
      rename_i e
      simp only [Option.map_eq_some_iff] at hu
      obtain ⟨n', _, hs⟩ := hu
      apply hstar
      rw [← hs]
      simp [String.toList_append]

theorem cells53 : Tryf.prog.cellsOf 53 = 2 := by kernel_rfl
theorem cells9 : Tryf.prog.cellsOf 9 = 1 := by kernel_rfl
theorem cells49 : Tryf.prog.cellsOf 49 = 1 := by kernel_rfl
theorem cells23 : Tryf.prog.cellsOf 23 = 0 := by kernel_rfl
theorem cells25 : Tryf.prog.cellsOf 25 = 0 := by kernel_rfl

/-- Two cells read. -/
theorem cells_two {w : World} {a : Addr} {cs : List Value} (h : w.cells? 0 a 2 = some cs) : ∃ c0 c1, cs = [c0, c1] ∧ w.cell? (a.add 0) = some c0 ∧ w.cell? (a.add 1) = some c1 := by
  unfold World.cells? at h
  rw [if_pos (Nat.zero_le _)] at h
  simp [List.range, List.range.loop] at h
  cases h0 : w.cell? (a.add 0) with
  | none => simp [h0] at h
  | some c0 =>
    cases h1 : w.cell? (a.add 1) with
    | none => simp [h0, h1] at h
    | some c1 => simp [h0, h1] at h; exact ⟨c0, c1, h.symm, rfl, rfl⟩

theorem bytes_of {s : ByteArray} {l : List UInt8} (h : s.data.toList = l) : s = ⟨l.toArray⟩ := by
  obtain ⟨⟨d⟩⟩ := s
  simp at h
  rw [h]

/-- One element of the table, out of its reading: a string, and an interface value of a type without cells. -/
theorem elem_of {W : World} {n : Nat} {a : Addr} {l : List UInt8} {nm : String} {p : List MemPlace} {tt : TypeId} (hrow : ∀ u, Tryf.prog.typeName? 3 u = some nm → u = tt)
    (htt : Tryf.prog.underlying tt = some (.struct #[])) (hc : Tryf.prog.cellsOf tt = 0)
    (h : (W.cells? 0 a 2).bind (DataW.trod (fun _ => ()) Tryf.prog W 0 (fun _ => true) false n 53) = some (.agg [.lit (.string l), .iface nm (.agg [])], p))
    (hok : ∀ u v, W.cell? (a.add 1) = some (.iface u v) → Value.okWide Tryf.prog W .any 0 u v) :
    W.cell? (a.add 0) = some (.string ⟨l.toArray⟩) ∧ W.cell? (a.add 1) = some (.iface tt (.agg #[])) := by
  rw [Option.bind_eq_some_iff] at h
  obtain ⟨cs, hcs, h⟩ := h
  obtain ⟨c0, c1, rfl, h0, h1⟩ := cells_two hcs
  obtain ⟨y0, y1, m, hx, _, hy0, hy1⟩ := trod_struct2 Tryf.underlying53 h
  simp only [Prod.mk.injEq, DataW.agg.injEq, List.cons.injEq, and_true] at hx
  obtain ⟨⟨e0, e1⟩, _⟩ := hx
  rw [cells9] at hy0
  rw [cells49] at hy1
  obtain ⟨s, es, ey, _⟩ := DataW.trod_string Tryf.underlying9 hy0
  simp at es
  subst es
  have hs : s.data.toList = l := by
    rw [ey] at e0
    simpa using e0.symm
  obtain ⟨d1, q1⟩ := y1
  simp only at e1
  subst e1
  obtain ⟨f', u, v, ev, hn, _⟩ := iface_of_trod Tryf.underlying49 hy1
  simp at ev
  subst ev
  obtain rfl := hrow u hn
  obtain ⟨cs, rfl, hz⟩ := okWide_struct htt (hok _ _ h1)
  rw [hc] at hz
  obtain rfl := Array.eq_empty_of_size_eq_zero hz
  exact ⟨by rw [h0, bytes_of hs], h1⟩

theorem two_of_map {α β : Type} {d0 d1 : α} : ∀ {l : List (α × β)}, [d0, d1] = l.map (·.1) → ∃ p0 p1, l = [(d0, p0), (d1, p1)]
  | [], h => by simp at h
  | [_], h => by simp at h
  | [(_, p0), (_, p1)], h => by simp at h; obtain ⟨rfl, rfl⟩ := h; exact ⟨p0, p1, rfl⟩
  | _ :: _ :: _ :: _, h => by simp at h

theorem shows_of_laid {W : World} (h : laidMetH Tryf.prog Rows.fnPlainShowExactLinesRow.laid W) : ∃ b off, Shows W b off ∧ b < W.heap.size := by
  rw [MakeChecks.laidMetH_plain _ _ _ (by kernel_rfl)] at h
  obtain ⟨ps, ⟨g0, t0, cs0, f0, p0, q0, hg0, ht0, hv0, hd0, hq, e⟩, _, hrows⟩ := h
  obtain rfl : g0 = 0 := Option.some.inj (hg0.symm.trans (by kernel_rfl))
  obtain rfl : t0 = 52 := Option.some.inj (ht0.symm.trans (by kernel_rfl))
  have hq' : q0 = [] := hq
  subst hq'
  rcases DataW.trod_slice Tryf.underlying52 hd0 with ⟨_, hx⟩ | ⟨a, len, cap, elems, rest, n, _, hcs, hx, _, hl, _, hlen, hel, _⟩
  · simp [Rows.laid_example_com_convene_convene_scenario_plainShows] at hx
  simp only [Rows.laid_example_com_convene_convene_scenario_plainShows, Prod.mk.injEq, DataW.slice.injEq] at hx
  obtain ⟨⟨hel0, hr0⟩, hp⟩ := hx
  obtain ⟨p0', p1', rfl⟩ := two_of_map hel0
  obtain rfl : len = 2 := by simpa using hlen.symm
  obtain rfl : rest = [] := by simpa using hr0.symm
  simp only [List.length_cons, List.length_nil, cells53] at hp
  have hg : W.cell? ⟨0, 0, none⟩ = some (.slice (some a) 2 cap) := by
    have := World.var?_cell hg0 hv0 0
    rw [Array.eq_one_of_toList hcs] at this
    simpa using this
  have h0 := hel 0 (by decide)
  have h1 := hel 1 (by decide)
  rw [cells53] at h0 h1
  obtain ⟨b, off, spot⟩ := a
  have hspot : spot = none := by
    have h0' := h0
    simp only [List.getElem?_cons_zero] at h0'
    rw [Option.bind_eq_some_iff] at h0'
    obtain ⟨cs, hcs', _⟩ := h0'
    obtain ⟨c0, c1, rfl, hc0, _⟩ := cells_two hcs'
    simpa [Addr.add] using World.cell?_spot hc0
  subst hspot
  have hok : ∀ j, j < 4 → ∀ u v, W.cell? ⟨b, off + j, none⟩ = some (.iface u v) → Value.okWide Tryf.prog W .any 0 u v := by
    intro j hj u v hc
    have hm : MemPlace.cell b (off + j) ∈ ps := by
      rw [e, hp]
      simp only [List.append_nil]
      refine List.mem_append_right _ (List.mem_append_left _ ?_)
      exact MemPlace.mem_row.2 ⟨j, by omega, rfl⟩
    exact (hrows _ _ hm).2 u v hc
  have k0 := elem_of (fun u hn => typeName_named (by kernel_rfl) (by decide) u hn) Tryf.underlying23 cells23 h0 (fun u v hc => hok 1 (by omega) u v (by simpa [Addr.add] using hc))
  have k1 := elem_of (fun u hn => typeName_named (by kernel_rfl) (by decide) u hn) Tryf.underlying25 cells25 h1 (fun u v hc => hok 3 (by omega) u v (by simpa [Addr.add] using hc))
  simp [Addr.add] at k0 k1
  exact ⟨b, off, ⟨⟨cap, hg⟩, k0.1, k0.2, k1.1, k1.2⟩, World.block_lt_of_cell? _ _ k0.1⟩
end Go.Proofs.Qxb6609341aFmt
