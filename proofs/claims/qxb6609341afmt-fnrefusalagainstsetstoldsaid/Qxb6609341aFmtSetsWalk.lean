import Derived.Test.Qxb6609341aFmtSetsLaw
namespace Go.Proofs.Qxb6609341aFmt
open Go.RowKit Go.Extern.Stop Go.Stop Go.Extern
open Go.Maps (Keyed)

theorem below_drewN' (w : World) (n : Nat) : Below w.heap.size w (w.drewN n) := ⟨rfl, rfl, rfl, Nat.le_refl _, fun _ _ => rfl⟩

theorem SetMap.congr {w : World} {K : TypeId} {b n : Nat} {S S' : Value → Prop} (h : SetMap w K b n S) (e : ∀ v, S v ↔ S' v) : SetMap w K b n S' := by
  obtain ⟨D, ho, hS⟩ := h
  exact ⟨D, ho, fun v kl hk => ⟨fun h' => (hS v kl hk).1 ((e v).2 h'), fun h' => (hS v kl hk).2 (fun h'' => h' ((e v).1 h''))⟩⟩

/-- The first k of the strings, as keys. -/
def strKeys (ss : List ByteArray) (k : Nat) (v : Value) : Prop := ∃ j, j < k ∧ v = .string (ss.getD j ByteArray.empty)
def pairKeys (ps : List (ByteArray × ByteArray)) (k : Nat) (v : Value) : Prop := ∃ j, j < k ∧ v = pairV (ps.getD j (ByteArray.empty, ByteArray.empty))
theorem strKeys_step (ss : List ByteArray) (k : Nat) {s : ByteArray} (hs : ss.getD k ByteArray.empty = s) (v : Value) : (v = .string s ∨ strKeys ss k v) ↔ strKeys ss (k + 1) v := by
  constructor
  · rintro (rfl | ⟨j, hj, e⟩)
    · exact ⟨k, by omega, by rw [hs]⟩
    · exact ⟨j, by omega, e⟩
  · rintro ⟨j, hj, e⟩
    by_cases h : j = k
    · left; rw [e, h, hs]
    · exact Or.inr ⟨j, by omega, e⟩
theorem pairKeys_step (ps : List (ByteArray × ByteArray)) (k : Nat) {c d : ByteArray} (hs : ps.getD k (ByteArray.empty, ByteArray.empty) = (c, d)) (v : Value) : (v = .agg #[.string c, .string d] ∨ pairKeys ps k v) ↔ pairKeys ps (k + 1) v := by
  constructor
  · rintro (rfl | ⟨j, hj, e⟩)
    · exact ⟨k, by omega, by rw [hs]; rfl⟩
    · exact ⟨j, by omega, e⟩
  · rintro ⟨j, hj, e⟩
    by_cases h : j = k
    · left; rw [e, h, hs]; rfl
    · exact Or.inr ⟨j, by omega, e⟩
theorem strKeys_iff (ss : List ByteArray) (x : ByteArray) : strKeys ss ss.length (.string x) ↔ inL ss x = true := by
  rw [inL_iff]
  constructor
  · rintro ⟨j, hj, e⟩
    exact ⟨ss.getD j ByteArray.empty, by simp [List.getD, hj], e⟩
  · rintro ⟨s, hs, e⟩
    obtain ⟨j, hj, rfl⟩ := List.getElem_of_mem hs
    exact ⟨j, hj, by rw [e]; simp [List.getD, hj]⟩
theorem pairKeys_iff {ps : List (ByteArray × ByteArray)} (h : Rising ps) (a b : ByteArray) : pairKeys ps ps.length (.agg #[.string (lo a b), .string (hi a b)]) ↔ linkL ps a b = true := by
  rw [link_iff h]
  constructor
  · rintro ⟨j, hj, e⟩
    exact ⟨ps.getD j (ByteArray.empty, ByteArray.empty), by simp [List.getD, hj], e⟩
  · rintro ⟨p, hp, e⟩
    obtain ⟨j, hj, rfl⟩ := List.getElem_of_mem hp
    exact ⟨j, hj, by rw [e]; simp [List.getD, hj]⟩

/-- The first k pairs are named in order. -/
def RisingTo (ps : List (ByteArray × ByteArray)) (k : Nat) : Prop := ∀ j, j < k → Op.bytesLess (ps.getD j (ByteArray.empty, ByteArray.empty)).1.toList (ps.getD j (ByteArray.empty, ByteArray.empty)).2.toList = true
theorem RisingTo.step {ps : List (ByteArray × ByteArray)} {k : Nat} (h : RisingTo ps k) {c d : ByteArray} (hs : ps.getD k (ByteArray.empty, ByteArray.empty) = (c, d)) (h1 : Op.bytesLess c.toList d.toList = true) : RisingTo ps (k + 1) := by
  intro j hj
  by_cases e : j = k
  · rw [e, hs]; exact h1
  · exact h j (by omega)
theorem RisingTo.all {ps : List (ByteArray × ByteArray)} (h : RisingTo ps ps.length) : Rising ps := by
  intro p hp
  obtain ⟨j, hj, rfl⟩ := List.getElem_of_mem hp
  have := h j hj
  simpa [List.getD, hj] using this

/-- Behind the making of the State. -/
theorem env_made {F : Interp} {w W4 W5 : World} {ss : List ByteArray} {ps : List (ByteArray × ByteArray)} {d a b : ByteArray} (hF : F.answers w.tape) (hd : d.size ≤ 65536) (ha : a.size ≤ 65536) (hb : b.size ≤ 65536)
    (HB : Below w.heap.size w W4) (HB4 : Below W4.heap.size W4 W5) (HM : SetMap W4 9 w.heap.size ss.length (strKeys ss ss.length)) (HN : SetMap W5 30 W4.heap.size ps.length (pairKeys ps ps.length)) (HR : Rising ps) :
    Env F W5.heap.size w.heap.size W4.heap.size d a b (inL ss d) (linkL ps a b) (W5.alloc (.cells #[.map (some w.heap.size), .map none, .map (some W4.heap.size)] 46)) := by
  have hB5 : Below W5.heap.size W5 (W5.alloc (.cells #[.map (some w.heap.size), .map none, .map (some W4.heap.size)] 46)) := (Below.refl _ _).alloc (Nat.le_refl _) _
  have M5 : SetMap W5 9 w.heap.size ss.length (strKeys ss ss.length) := HM.below HB4 HM.lt
  refine ⟨?_, by simp, by simp, by simp, fun wr hr => ?_, fun wr hr => ?_⟩
  · rw [hB5.tape, HB4.tape, HB.tape]; exact hF
  · have M := (M5.below hB5 M5.lt).below hr (by simp; exact Nat.lt_succ_of_lt M5.lt)
    have L := M.look law9 Tryf.underlying31 (key9 (s := d) (by unfold maxLen; omega))
    cases hi : inL ss d
    · exact L.2 (fun h => by rw [strKeys_iff, hi] at h; cases h)
    · exact L.1 ((strKeys_iff ss d).2 hi)
  · have N := (HN.below hB5 HN.lt).below hr (by simp; exact Nat.lt_succ_of_lt HN.lt)
    have hlo : (lo a b).size ≤ maxLen := by unfold lo maxLen; split <;> omega
    have hhi : (hi a b).size ≤ maxLen := by unfold hi maxLen; split <;> omega
    obtain ⟨kl, hk⟩ := key30 hlo hhi
    have L := N.look law30 Tryf.underlying32 hk
    cases hi' : linkL ps a b
    · exact L.2 (fun h => by rw [pairKeys_iff HR, hi'] at h; cases h)
    · exact L.1 ((pairKeys_iff HR a b).2 hi')

theorem hide {p : Prop} (h : p) : Hid p := h

def Done (w : World) (e : Ending) (w' : World) : Prop := e = .returned (.bool true) ∧ Below w.heap.size w w'

set_option maxRecDepth 100000 in
set_option maxHeartbeats 4000000 in
theorem law_in (F : Interp) (sa pa : Option Addr) (cap cap' : Nat) (ss : List ByteArray) (ps : List (ByteArray × ByteArray)) (d a b : ByteArray) (c : Bool) (w : World) (hF : F.answers w.tape)
    (hl1 : ss.length ≤ maxLen) (hl2 : ps.length ≤ maxLen) (hd : d.size ≤ maxLen) (ha : a.size ≤ maxLen) (hb : b.size ≤ maxLen) (hS : StrRow w sa ss) (hP : PairRow w pa ps)
    (g1 : ss.length ≤ 65536) (g2 : ps.length ≤ 65536) (g3 : d.size ≤ 65536) (g4 : a.size ≤ 65536) (g5 : b.size ≤ 65536) (g6 : d.size + a.size + b.size + 16 * ss.length + 32 * ps.length ≤ 1048576) :
    Calls Tryf.prog 4 #[.slice sa ss.length cap, .slice pa ps.length cap', .string d, .string a, .string b, .bool c] w (Done w) := by
  have C8 := bytes8_any sa pa cap cap' ss ps d a b c w hl1 hl2 hd ha hb hS hP
  clear hl1 hl2 hd ha hb
  have HS : Hid (StrRow w sa ss) := hS
  have HP : Hid (PairRow w pa ps) := hP
  have HF : Hid (F.answers w.tape) := hF
  clear hS hP hF
  go_enter Tryf.func4, Tryf.ntmps4
  go_wp2_with fail
  refine C8.mono ?_
  clear C8
  rintro e w1 ⟨x, rfl, hx, hw⟩
  rw [hw]
  clear hw w1
  cases x
  · go_wp2
    go_ret
    exact ⟨rfl, Below.refl _ _⟩
  · obtain ⟨hs8, hp8⟩ := hx rfl
    have HS8 : Hid (SmallS ss ss.length) := hs8
    have HP8 : Hid (SmallP ps ps.length) := hp8
    clear hs8 hp8 hx
    have hz1 : decide (65536 < (ss.length : Int)) = false := by simp; omega
    have hz2 : decide (65536 < (ps.length : Int)) = false := by simp; omega
    have hz3 : decide (65536 < (d.size : Int)) = false := by simp; omega
    have hz4 : decide (65536 < (a.size : Int)) = false := by simp; omega
    have hz5 : decide (65536 < (b.size : Int)) = false := by simp; omega
    have hz6 : decide (1048576 < (d.size : Int) + (a.size : Int) + (b.size : Int) + 16 * (ss.length : Int) + 32 * (ps.length : Int)) = false := by simp; omega
    go_wp2
    go_loop [13, 14] (fun n i => ∃ (k : Nat) (z : Int), k ≤ ss.length ∧ i = .int .i64 k ∧ n = .int .i64 z ∧ 0 ≤ z ∧ z ≤ 1048576) (fun _ i => ss.length - (intOf i).toNat)
    case atStart => exact ⟨0, _, Nat.zero_le _, rfl, rfl, by omega, by omega⟩
    case round =>
      obtain ⟨k, z, hk, rfl, rfl, hz, hz'⟩ := hrel
      by_cases hlt : k < ss.length
      · obtain ⟨b, off, e, hb, hc⟩ := HS.out k hlt
        subst e
        have hck := hc k hlt
        clear hc
        have hs8 := HS8.out k hlt
        generalize hs : ss.getD k ByteArray.empty = s at hck hs8
        clear hs
        by_cases h2 : z + s.size ≤ 1048576
        · go_wp2
          go_round
          case rel => exact ⟨k + 1, _, by omega, by go_num, rfl, by omega, by omega⟩
          case measure => simp [intOf]; omega
        · go_wp2
          go_ret
          exact ⟨rfl, Below.refl _ _⟩
      · obtain rfl : k = ss.length := by omega
        go_wp2
        go_loopw [13, 15] (fun n i wr => ∃ (k nq : Nat) (z : Int), k ≤ ps.length ∧ i = .int .i64 k ∧ n = .int .i64 z ∧ 0 ≤ z ∧ z ≤ 1048576 ∧ wr = w.drewN nq) (fun _ i _ => ps.length - (intOf i).toNat)
        case atStart => exact ⟨0, 0, _, Nat.zero_le _, rfl, rfl, by omega, by omega, rfl⟩
        case round =>
          obtain ⟨k, nq, z, hk, rfl, rfl, hz, hz', rfl⟩ := hrel
          by_cases hlt : k < ps.length
          · obtain ⟨b, off, e, hb, hc⟩ := HP.out k hlt
            subst e
            obtain ⟨hc0, hc1⟩ := hc k hlt
            obtain ⟨hp0, hp1⟩ := HP8.out k hlt
            clear hc
            generalize hs : ps.getD k (ByteArray.empty, ByteArray.empty) = s at hc0 hc1 hp0 hp1
            clear hs
            obtain ⟨s0, s1⟩ := s
            simp only at hc0 hc1 hp0 hp1
            by_cases h2 : z + (s0.size + s1.size) ≤ 1048576
            · go_wp2_with fail
              go_quiet (fail)
              go_wp2
              exact ⟨⟨k + 1, _, _, by omega, by go_num, rfl, by omega, by omega, rfl⟩, by simp [intOf]; omega⟩
            · go_wp2_with fail
              go_quiet (fail)
              go_wp2
              go_ret
              exact ⟨rfl, by first | exact below_drewN' _ _ | exact below_drewN (below_drewN' _ _) _⟩
          · obtain rfl : k = ps.length := by omega
            go_wp2
            go_loopw [16] (fun i wr => ∃ (k nq : Nat), k ≤ ps.length ∧ i = .int .i64 k ∧ Hid (RisingTo ps k) ∧ wr = w.drewN nq) (fun i _ => ps.length - (intOf i).toNat)
            case atStart => exact ⟨0, _, Nat.zero_le _, rfl, (fun j hj => by omega), rfl⟩
            case round =>
              obtain ⟨k, nq, hk, rfl, HR, rfl⟩ := hrel
              by_cases hlt : k < ps.length
              · obtain ⟨b, off, e, hb, hc⟩ := HP.out k hlt
                subst e
                obtain ⟨hc0, hc1⟩ := hc k hlt
                clear hc
                generalize hs : ps.getD k (ByteArray.empty, ByteArray.empty) = s at hc0 hc1
                have Hs : Hid (ps.getD k (ByteArray.empty, ByteArray.empty) = s) := hs
                clear hs
                obtain ⟨s0, s1⟩ := s
                simp only at hc0 hc1
                cases hb1 : Op.bytesLess s0.toList s1.toList
                · go_wp2_with fail
                  go_quiet (fail)
                  go_wp2
                  go_ret
                  exact ⟨rfl, by first | exact below_drewN' _ _ | exact below_drewN (below_drewN' _ _) _⟩
                · have Hb1 : Hid (Op.bytesLess s0.toList s1.toList = true) := hb1
                  go_wp2_with fail
                  go_quiet (fail)
                  go_wp2
                  exact ⟨⟨k + 1, _, by omega, by go_num, HR.out.step Hs.out Hb1.out, rfl⟩, by simp [intOf]; omega⟩
              · obtain rfl : k = ps.length := by omega
                have hmk := run_makeMapN 31 9 4 Tryf.underlying31
                have hmk2 := run_makeMapN 32 30 4 Tryf.underlying32
                have HR' : Hid (Rising ps) := HR.out.all
                clear HR
                go_wp2
                have HM0 : SetMap ((w.drewN nq).alloc (.map #[] 0)) 9 w.heap.size 0 (strKeys ss 0) := (SetMap.made (w.drewN nq) 9).congr (fun v => ⟨fun h => h.elim, fun ⟨j, hj, _⟩ => by omega⟩)
                have hB0 : Below w.heap.size w ((w.drewN nq).alloc (.map #[] 0)) := (below_drewN' w nq).alloc (Nat.le_refl _) _
                go_loopw [18] (fun i wr => ∃ (k : Nat), k ≤ ss.length ∧ i = .int .i64 k ∧ Hid (SetMap wr 9 w.heap.size k (strKeys ss k)) ∧ Hid (Below w.heap.size w wr)) (fun i _ => ss.length - (intOf i).toNat)
                case atStart => exact ⟨0, Nat.zero_le _, rfl, HM0, hB0⟩
                case round =>
                  obtain ⟨k, hk, rfl, HM, HB⟩ := hrel
                  clear HM0 hB0
                  by_cases hlt : k < ss.length
                  · obtain ⟨b, off, e, hb, hc⟩ := HS.out.below HB.out k hlt
                    subst e
                    have hck := hc k hlt
                    clear hc
                    have hs8 := HS8.out k hlt
                    generalize hs : ss.getD k ByteArray.empty = s at hck hs8
                    have Hs : Hid (ss.getD k ByteArray.empty = s) := hs
                    clear hs
                    have hkey : keyOf Tryf.prog 9 (.string s) = some (.string s.data.toList) := key9 (by unfold maxLen; omega)
                    obtain ⟨D, hown, hSD⟩ := HM.out
                    have HSD := hide hSD
                    clear hSD
                    go_wp2_with (first | (at_mapUpdate; refine wpList_mapUpdate_own _ rfl _ _ _ 31 rfl 9 4 law9 Tryf.underlying31 _ w.heap.size k _ rfl hown (by unfold maxLen; omega) _ _ _ rfl rfl hkey _ [] (plainElem_bool Tryf.underlying4 true) ?_; intro w1 hown1 hgrow1))
                    exact ⟨⟨k + 1, by omega, by go_num, (SetMap.put law9 hkey hown.isMap HSD.out hown1).congr (strKeys_step ss k Hs.out), HB.out.grown hgrow1 HB.out.size (fun j hj => by cases hj; exact Nat.le_refl _)⟩, by simp [intOf]; omega⟩
                  · obtain rfl : k = ss.length := by omega
                    obtain ⟨W4, rfl⟩ : ∃ W4 : World, W4 = wr := ⟨_, rfl⟩
                    go_wp2
                    have HM0 : SetMap (W4.alloc (.map #[] 0)) 30 W4.heap.size 0 (pairKeys ps 0) := (SetMap.made W4 30).congr (fun v => ⟨fun h => h.elim, fun ⟨j, hj, _⟩ => by omega⟩)
                    have hB0 : Below W4.heap.size W4 (W4.alloc (.map #[] 0)) := (Below.refl _ _).alloc (Nat.le_refl _) _
                    go_loopw [20] (fun i wr => ∃ (k : Nat), k ≤ ps.length ∧ i = .int .i64 k ∧ Hid (SetMap wr 30 W4.heap.size k (pairKeys ps k)) ∧ Hid (Below W4.heap.size W4 wr)) (fun i _ => ps.length - (intOf i).toNat)
                    case atStart => exact ⟨0, Nat.zero_le _, rfl, HM0, hB0⟩
                    case round =>
                      obtain ⟨k, hk, rfl, HN, HB4⟩ := hrel
                      clear HM0 hB0
                      by_cases hlt : k < ps.length
                      · obtain ⟨b, off, e, hb, hc⟩ := (HP.out.below HB.out).below HB4.out k hlt
                        subst e
                        obtain ⟨hc0, hc1⟩ := hc k hlt
                        obtain ⟨hp0, hp1⟩ := HP8.out k hlt
                        clear hc
                        generalize hs : ps.getD k (ByteArray.empty, ByteArray.empty) = s at hc0 hc1 hp0 hp1
                        have Hs : Hid (ps.getD k (ByteArray.empty, ByteArray.empty) = s) := hs
                        clear hs
                        obtain ⟨s0, s1⟩ := s
                        simp only at hc0 hc1 hp0 hp1
                        obtain ⟨kl, hkey⟩ := key30 (a := s0) (b := s1) (by unfold maxLen; omega) (by unfold maxLen; omega)
                        obtain ⟨D, hown, hSD⟩ := HN.out
                        have HSD := hide hSD
                        clear hSD
                        go_wp2_with (first | (at_mapUpdate; refine wpList_mapUpdate_own _ rfl _ _ _ 32 rfl 30 4 law30 Tryf.underlying32 _ W4.heap.size k _ rfl hown (by unfold maxLen; omega) _ _ _ rfl rfl hkey _ [] (plainElem_bool Tryf.underlying4 true) ?_; intro w1 hown1 hgrow1))
                        exact ⟨⟨k + 1, by omega, by go_num, (SetMap.put law30 hkey hown.isMap HSD.out hown1).congr (pairKeys_step ps k Hs.out), HB4.out.grown hgrow1 HB4.out.size (fun j hj => by cases hj; exact Nat.le_refl _)⟩, by simp [intOf]; omega⟩
                      · obtain rfl : k = ps.length := by omega
                        obtain ⟨W5, rfl⟩ : ∃ W5 : World, W5 = wr := ⟨_, rfl⟩
                        have hB5 : Below w.heap.size w W5 := HB.out.trans (HB4.out.mono HB.out.size)
                        have E6 := env_made (a := a) (b := b) HF.out g3 g4 g5 HB.out HB4.out HM.out HN.out HR'.out
                        have hB6 : Below w.heap.size w (W5.alloc (.cells #[.map (some w.heap.size), .map none, .map (some W4.heap.size)] 46)) := hB5.alloc hB5.size _
                        have CI := fun (W : World) (hW : StrRow W sa ss) => inList_any sa cap ss d W (by omega) hW
                        have CL := fun (W : World) (hW : PairRow W pa ps) => linkListed_any pa cap' ps a b W (by omega) hW
                        generalize inL ss d = inl at E6 CI
                        generalize linkL ps a b = lnk at E6 CL
                        have S6 := HS.out.below hB6
                        have P6 := HP.out.below hB6
                        go_wp2_with fail
                        refine (newState_any _ _ _).mono ?_
                        rintro e W6 ⟨rfl, hw⟩
                        rw [← hw] at E6 hB6 S6 P6
                        clear hw
                        have E6' := hide E6
                        have hB6' := hide hB6
                        have S6' := hide S6
                        have P6' := hide P6
                        have CI' := hide CI
                        have CL' := hide CL
                        clear E6 hB6 S6 P6 CI CL HM HN HB HB4 HR' HS HP HF HS8 HP8 hB5 hmk hmk2
                        go_wp2_with fail
                        refine (CI'.out W6 S6'.out).mono ?_
                        rintro e W7 ⟨rfl, hw⟩
                        rw [hw]
                        clear hw W7
                        go_wp2_with fail
                        refine (CL'.out W6 P6'.out).mono ?_
                        rintro e W7 ⟨rfl, hw⟩
                        rw [hw]
                        clear hw W7 CI' CL' S6' P6'
                        cases hhe : (a.toList == b.toList)
                        · cases c <;> cases lnk
                          · go_wp2_with fail
                            refine E6'.out.restart.mono ?_
                            rintro e W7 ⟨v7, rfl, hv7, hg7, hB7⟩
                            have E7 := hide (E6'.out.below hB7)
                            have HB7 := hide (hB6'.out.trans (hB7.mono hB6'.out.size))
                            clear hB7 hB6' E6'
                            go_wp2_with fail
                            refine (E7.out.link false false hhe).mono ?_
                            rintro e W8 ⟨v8, rfl, hv8, hg8, hB8⟩
                            have E8 := hide (E7.out.below hB8)
                            have HB8 := hide (HB7.out.trans (hB8.mono HB7.out.size))
                            clear hB8 HB7 E7
                            go_wp2_with fail
                            refine (E8.out.linkBack false false hhe).mono ?_
                            rintro e W9 ⟨v9, rfl, hv9, hg9, hB9⟩
                            have HB9 := hide (HB8.out.trans (hB9.mono HB8.out.size))
                            clear hB9 HB8 E8
                            go_wp2_with fail
                            refine (refuse_show23 _ _).mono ?_
                            rintro e w3 ⟨rfl, hw⟩
                            rw [hw]
                            clear hw w3
                            go_wp2_with fail
                            refine (refuse_show25 _ _).mono ?_
                            rintro e w3 ⟨rfl, hw⟩
                            rw [hw]
                            clear hw w3
                            go_wp2
                            go_ret
                            exact ⟨by simp, HB9.out⟩
                          · go_wp2_with fail
                            refine E6'.out.restart.mono ?_
                            rintro e W7 ⟨v7, rfl, hv7, hg7, hB7⟩
                            have E7 := hide (E6'.out.below hB7)
                            have HB7 := hide (hB6'.out.trans (hB7.mono hB6'.out.size))
                            clear hB7 hB6' E6'
                            go_wp2_with fail
                            refine (E7.out.link false false hhe).mono ?_
                            rintro e W8 ⟨v8, rfl, hv8, hg8, hB8⟩
                            have E8 := hide (E7.out.below hB8)
                            have HB8 := hide (HB7.out.trans (hB8.mono HB7.out.size))
                            clear hB8 HB7 E7
                            go_wp2_with fail
                            refine (E8.out.linkBack false false hhe).mono ?_
                            rintro e W9 ⟨v9, rfl, hv9, hg9, hB9⟩
                            have HB9 := hide (HB8.out.trans (hB9.mono HB8.out.size))
                            clear hB9 HB8 E8
                            go_wp2_with fail
                            refine (refuse_show23 _ _).mono ?_
                            rintro e w3 ⟨rfl, hw⟩
                            rw [hw]
                            clear hw w3
                            go_wp2_with fail
                            refine (refuse_show25 _ _).mono ?_
                            rintro e w3 ⟨rfl, hw⟩
                            rw [hw]
                            clear hw w3
                            go_wp2
                            go_ret
                            exact ⟨by simp, HB9.out⟩
                          · go_wp2_with fail
                            refine E6'.out.restart.mono ?_
                            rintro e W7 ⟨v7, rfl, hv7, hg7, hB7⟩
                            have E7 := hide (E6'.out.below hB7)
                            have HB7 := hide (hB6'.out.trans (hB7.mono hB6'.out.size))
                            clear hB7 hB6' E6'
                            go_wp2_with fail
                            refine (E7.out.link true false hhe).mono ?_
                            rintro e W8 ⟨v8, rfl, hv8, hg8, hB8⟩
                            have E8 := hide (E7.out.below hB8)
                            have HB8 := hide (HB7.out.trans (hB8.mono HB7.out.size))
                            clear hB8 HB7 E7
                            go_wp2_with fail
                            refine (E8.out.linkBack true false hhe).mono ?_
                            rintro e W9 ⟨v9, rfl, hv9, hg9, hB9⟩
                            have HB9 := hide (HB8.out.trans (hB9.mono HB8.out.size))
                            clear hB9 HB8 E8
                            go_wp2_with fail
                            refine (refuse_show23 _ _).mono ?_
                            rintro e w3 ⟨rfl, hw⟩
                            rw [hw]
                            clear hw w3
                            go_wp2_with fail
                            refine (refuse_show25 _ _).mono ?_
                            rintro e w3 ⟨rfl, hw⟩
                            rw [hw]
                            clear hw w3
                            go_wp2
                            go_ret
                            exact ⟨by simp, HB9.out⟩
                          · go_wp2_with fail
                            refine E6'.out.restart.mono ?_
                            rintro e W7 ⟨v7, rfl, hv7, hg7, hB7⟩
                            have E7 := hide (E6'.out.below hB7)
                            have HB7 := hide (hB6'.out.trans (hB7.mono hB6'.out.size))
                            clear hB7 hB6' E6'
                            go_wp2_with fail
                            refine (E7.out.link true false hhe).mono ?_
                            rintro e W8 ⟨v8, rfl, hv8, hg8, hB8⟩
                            have E8 := hide (E7.out.below hB8)
                            have HB8 := hide (HB7.out.trans (hB8.mono HB7.out.size))
                            clear hB8 HB7 E7
                            go_wp2_with fail
                            refine (E8.out.linkBack true false hhe).mono ?_
                            rintro e W9 ⟨v9, rfl, hv9, hg9, hB9⟩
                            have HB9 := hide (HB8.out.trans (hB9.mono HB8.out.size))
                            clear hB9 HB8 E8
                            go_wp2_with fail
                            refine (refuse_show23 _ _).mono ?_
                            rintro e w3 ⟨rfl, hw⟩
                            rw [hw]
                            clear hw w3
                            go_wp2_with fail
                            refine (refuse_show25 _ _).mono ?_
                            rintro e w3 ⟨rfl, hw⟩
                            rw [hw]
                            clear hw w3
                            go_wp2
                            go_ret
                            exact ⟨by simp, HB9.out⟩
                        · go_wp2_with fail
                          refine E6'.out.restart.mono ?_
                          rintro e W7 ⟨v7, rfl, hv7, hg7, hB7⟩
                          have E7 := hide (E6'.out.below hB7)
                          have HB7 := hide (hB6'.out.trans (hB7.mono hB6'.out.size))
                          clear hB7 hB6' E6'
                          go_wp2_with fail
                          refine (E7.out.link c true hhe).mono ?_
                          rintro e W8 ⟨v8, rfl, hv8, hg8, hB8⟩
                          have E8 := hide (E7.out.below hB8)
                          have HB8 := hide (HB7.out.trans (hB8.mono HB7.out.size))
                          clear hB8 HB7 E7
                          go_wp2_with fail
                          refine (E8.out.linkBack c true hhe).mono ?_
                          rintro e W9 ⟨v9, rfl, hv9, hg9, hB9⟩
                          have HB9 := hide (HB8.out.trans (hB9.mono HB8.out.size))
                          clear hB9 HB8 E8
                          go_wp2_with fail
                          refine (refuse_show23 _ _).mono ?_
                          rintro e w3 ⟨rfl, hw⟩
                          rw [hw]
                          clear hw w3
                          go_wp2_with fail
                          refine (refuse_show25 _ _).mono ?_
                          rintro e w3 ⟨rfl, hw⟩
                          rw [hw]
                          clear hw w3
                          go_wp2
                          go_ret
                          exact ⟨by simp, HB9.out⟩
end Go.Proofs.Qxb6609341aFmt
