import Derived.Test.Qxb6000768aX4
set_option linter.unusedSimpArgs false
set_option linter.unusedVariables false
namespace Go.Proofs.Qxb6000768a
open Go.RowKit

theorem ret47 {Q : Ending → World → Prop} {a : Act} {w : World} (hd : a.defers = []) (h : Q (.returned (.tuple #[])) w) : bodyPost Try.prog Try.f47 Q Exit.normal a w :=
  bodyPost_end (v := .tuple #[]) (by simp [results, Try.results47]) hd h

set_option maxRecDepth 1000000 in
set_option maxHeartbeats 2000000 in
theorem readPath_any (tb sb ab : Nat) (pa qu di : Option Addr) (ro ef e0 : Bool) (k0 : Option Addr) (scs aus ps0 : List ByteArray) (s : ByteArray) (w : World)
    (hb : Blk w tb (baseCells (some ⟨sb, 0, none⟩) (some ⟨ab, 0, none⟩) pa qu di ro ef) 33)
    (hsc : Chain w (some ⟨sb, 0, none⟩) scs) (hau : Chain w (some ⟨ab, 0, none⟩) aus)
    (ha : Above w k0 ps0 (some ⟨ab, 0, none⟩) aus) (hg : Good ps0) (hsl : ps0 = [] ∨ ∃ x, s.data.toList = 47 :: x) (hn : (flat (ps0 ++ aus)).length + s.size ≤ 10000000) :
    Calls Try.prog 47 #[.pointer (some ⟨tb, 0, none⟩), .agg #[.pointer k0, .pointer (some ⟨ab, 0, none⟩), .bool e0], .string s] w fun e w' => e = .returned (.tuple #[]) ∧
      ∃ pa' di' ro' ef' ps, Blk w' tb (baseCells (some ⟨sb, 0, none⟩) (some ⟨ab, 0, none⟩) pa' qu di' ro' ef') 33 ∧ Above w' pa' ps (some ⟨ab, 0, none⟩) aus ∧ Above w' di' ps.tail (some ⟨ab, 0, none⟩) aus ∧ Good ps ∧ flat ps = RD (flat ps0) s.data.toList ∧
        ro' = (match ps with | [] => !decide (ab = sb) | t :: _ => decide (t.data.toList.head? = some 47)) ∧ Kp w w' ∧ Below tb w w' := by
  have hD : Dot (w.alloc (.cells #[.pointer k0, .pointer (some ⟨ab, 0, none⟩), .bool e0] 41)) w.heap.size k0 (some ⟨ab, 0, none⟩) e0 := Blk.new w _ 41
  have kn : Kp w (w.alloc (.cells #[.pointer k0, .pointer (some ⟨ab, 0, none⟩), .bool e0] 41)) := (Kp.refl w).alloc _
  have htl := hb.lt
  have hb1 := hb.alloc (.cells #[.pointer k0, .pointer (some ⟨ab, 0, none⟩), .bool e0] 41)
  have hbe : Below tb w (w.alloc (.cells #[.pointer k0, .pointer (some ⟨ab, 0, none⟩), .bool e0] 41)) := (Below.refl _ _).alloc (Nat.le_of_lt htl) _
  go_enter Try.func47, Try.ntmps47
  go_upto_region 1 with fail
  replace hsc := kn.chain hsc
  replace hau := kn.chain hau
  replace ha := kn.above ha
  have HKN : Hid (Kp w (w.alloc (.cells #[.pointer k0, .pointer (some ⟨ab, 0, none⟩), .bool e0] 41))) := kn
  clear hb kn
  generalize w.alloc (.cells #[.pointer k0, .pointer (some ⟨ab, 0, none⟩), .bool e0] 41) = w1 at *
  generalize w.heap.size = g at *
  have hrd := read_any g ab k0 ps0 aus s e0 w1 hD ha hg hsl hn
  go_upto_region 2 with (first | (go_at_call 29; refine hrd.mono ?_; rintro e w5 ⟨rfl, kk5, ef5, ps5, hd5, ha5, hg5, hf5, hgr5⟩))
  have hb5 := hb1.grown hgr5 (by omega)
  have hbe5 := hbe.trans (below_of_grown hgr5 (by omega) (Nat.le_of_lt hb1.lt))
  have kn5 := Kp.grown hgr5 hD.blk (by decide)
  replace hsc := kn5.chain hsc
  replace hau := kn5.chain hau
  replace HKN : Hid (Kp w w5) := HKN.out.trans kn5
  have HF5 : Hid (flat ps5 = RD (flat ps0) s.data.toList) := hf5
  clear hrd hD hgr5 hb1 hbe kn5 hf5 ha hg hsl hn
  obtain ⟨c0, c1, c2, c3⟩ := hd5.cells
  obtain ⟨d0, d1, d2, d3, d4, d5, d6, d7⟩ := baseAll hb5
  obtain ⟨j54, hj, hj0⟩ := info54'
  obtain ⟨rb, Hrb⟩ : ∃ rb : Bool, Hid (rb = !decide (ab = sb)) := ⟨_, rfl⟩
  have eab : ∀ W, Kp w5 W → (binOp .neq 31 (.pointer (some ⟨ab, 0, none⟩)) (.pointer (some ⟨sb, 0, none⟩))).run Try.prog W = .ok (.bool rb) W := by
    intro W hkw
    by_cases h : ab = sb
    · have : rb = false := by rw [Hrb.out]; simp [h]
      rw [h, this]
      exact neq_same W (some ⟨sb, 0, none⟩)
    · have : rb = true := by rw [Hrb.out]; simp [h]
      rw [this]
      obtain ⟨_, _, _, hp1⟩ := floor_piece (hkw.chain hau)
      obtain ⟨_, _, _, hp2⟩ := floor_piece (hkw.chain hsc)
      exact run_neq_ptr_other W (a := ⟨ab, 0, none⟩) (b := ⟨sb, 0, none⟩) Try.underlying31 hj hj0 (by intro e; exact h (congrArg Addr.block e)) hp1 hp2
  have eab1 := eab w5.drew (Kp.refl w5)
  have eab2 := eab (w5.setCell ⟨tb, 2, none⟩ (.pointer kk5)).drew ((Kp.refl w5).set hb5 (by decide) 2 _)
  clear eab
  go_region
  go_upto_region 3 with fail
  have q2 := hb5.set 2 (.pointer kk5)
  have kn6 : Kp w5 ((w5.setCell ⟨tb, 2, none⟩ (.pointer kk5)).setCell ⟨tb, 5, none⟩ (.bool rb)).drew := (((Kp.refl w5).set hb5 (by decide) 2 (.pointer kk5)).set q2 (by decide) 5 (.bool rb)).drew
  have hb6 : Blk ((w5.setCell ⟨tb, 2, none⟩ (.pointer kk5)).setCell ⟨tb, 5, none⟩ (.bool rb)).drew tb (baseCells (some ⟨sb, 0, none⟩) (some ⟨ab, 0, none⟩) kk5 qu di rb ef) 33 := (q2.set 5 (.bool rb)).drew
  have hd6 : Dot ((w5.setCell ⟨tb, 2, none⟩ (.pointer kk5)).setCell ⟨tb, 5, none⟩ (.bool rb)).drew g kk5 (some ⟨ab, 0, none⟩) ef5 := ((hd5.blk.setOther ⟨tb, 2, none⟩ (by show tb ≠ g; omega) _).setOther ⟨tb, 5, none⟩ (by show tb ≠ g; omega) _).drew
  have hbe6 : Below tb w ((w5.setCell ⟨tb, 2, none⟩ (.pointer kk5)).setCell ⟨tb, 5, none⟩ (.bool rb)).drew := ((hbe5.setCell (p := ⟨tb, 2, none⟩) (Nat.le_refl _) _).setCell (p := ⟨tb, 5, none⟩) (Nat.le_refl _) _).drew
  replace hsc := kn6.chain hsc
  replace hau := kn6.chain hau
  replace ha5 := kn6.above ha5
  replace HKN : Hid (Kp w ((w5.setCell ⟨tb, 2, none⟩ (.pointer kk5)).setCell ⟨tb, 5, none⟩ (.bool rb)).drew) := HKN.out.trans kn6
  clear q2 kn6 c0 c1 c2 c3 d0 d1 d2 d3 d4 d5 d6 d7 hd5 hb5 hbe5 eab1 eab2
  generalize ((w5.setCell ⟨tb, 2, none⟩ (.pointer kk5)).setCell ⟨tb, 5, none⟩ (.bool rb)).drew = w6 at *
  obtain ⟨c0, c1, c2, c3⟩ := hd6.cells
  obtain ⟨d0, d1, d2, d3, d4, d5, d6, d7⟩ := baseAll hb6
  have hpop := pop_ab g ab _ ps5 aus ef5 w6 hd6 ha5
  cases ps5 with
  | nil =>
    obtain ⟨rfl, _⟩ := id ha5
    have e := neq_same w6 (some ⟨ab, 0, none⟩)
    clear hj hj0
    go_wp2_with (first | (go_at_call 35; refine hpop.mono ?_; rintro e w7 ⟨rfl, k7, hd7, ha7, hgr7⟩; have hb7 := hb6.grown hgr7 (by omega); obtain ⟨g0, g1, g2, g3⟩ := hd7.cells; obtain ⟨i0, i1, i2, i3, i4, i5, i6, i7⟩ := baseAll hb7))
    have kn7 := Kp.grown hgr7 hd6.blk (by decide)
    have q4 := hb7.set 4 (.pointer k7)
    have kn8 := ((Kp.refl w7).set hb7 (by decide) 4 (.pointer k7)).set q4 (by decide) 6 (.bool ef5)
    have hbe7 := hbe6.trans (below_of_grown hgr7 (by omega) (Nat.le_of_lt hb6.lt))
    refine ret47 rfl ⟨rfl, some ⟨ab, 0, none⟩, k7, rb, ef5, [], q4.set 6 (.bool ef5), kn8.above (kn7.above ha5), kn8.above ha7, hg5, HF5.out, Hrb.out, (HKN.out.trans kn7).trans kn8, (hbe7.setCell (p := ⟨tb, 4, none⟩) (Nat.le_refl _) _).setCell (p := ⟨tb, 6, none⟩) (Nat.le_refl _) _⟩
  | cons t ts =>
    obtain ⟨qf, sf, nf, hfp⟩ := floor_piece hau
    have ha5' := ha5
    obtain ⟨pb, q, rfl, hpc, hlt, _⟩ := ha5
    have htne : pb ≠ ab := by have := ha5'.lt rfl; simp at this; omega
    have e := run_neq_ptr_other w6 (a := ⟨pb, 0, none⟩) (b := ⟨ab, 0, none⟩) Try.underlying31 hj hj0 (by intro e; exact htne (congrArg Addr.block e)) hpc hfp
    obtain ⟨p0, p1, p2⟩ := hpc.cells
    have htz : 0 < t.size := by
      rcases Nat.eq_zero_or_pos t.size with h | h
      · exact absurd (List.eq_nil_of_length_eq_zero (by rw [blen]; exact h)) hg5.1.1
      · exact h
    have htz' : (0 : Int) < (t.size : Int) := by omega
    obtain ⟨rh, Hrh⟩ : ∃ rh : Bool, Hid (rh = decide (t.data.toList.head? = some 47)) := ⟨_, rfl⟩
    have erh : ((t[0].toNat : Int) == 47) = rh := by
      have h0 := lget t 0 htz
      rw [Hrh.out, List.head?_eq_getElem?, h0]
      by_cases h : t[0] = 47
      · rw [beq47_yes h]; simp [h]
      · rw [beq47_no h]; simp [h]
    clear hj hj0 hpc hfp hlt p0 p2
    go_upto_region 5 with fail
    clear d0 d1 d2 d3 d4 d5 d6 d7 c0 c1 c2 c3 hpop e p1
    have kn9 := (Kp.refl w6).set hb6 (by decide) 5 (.bool rh)
    have hb9 : Blk (w6.setCell ⟨tb, 5, none⟩ (.bool rh)) tb (baseCells (some ⟨sb, 0, none⟩) (some ⟨ab, 0, none⟩) (some ⟨pb, 0, none⟩) qu di rh ef) 33 := hb6.set 5 (.bool rh)
    have hd9 : Dot (w6.setCell ⟨tb, 5, none⟩ (.bool rh)) g (some ⟨pb, 0, none⟩) (some ⟨ab, 0, none⟩) ef5 := hd6.blk.setOther ⟨tb, 5, none⟩ (by show tb ≠ g; omega) _
    have hbe9 := hbe6.setCell (p := ⟨tb, 5, none⟩) (Nat.le_refl _) (.bool rh)
    have ha9 := kn9.above ha5'
    replace HKN : Hid (Kp w (w6.setCell ⟨tb, 5, none⟩ (.bool rh))) := HKN.out.trans kn9
    clear kn9 hb6 hd6 hbe6 ha5'
    generalize w6.setCell ⟨tb, 5, none⟩ (.bool rh) = w9 at *
    have hpop := pop_ab g ab _ (t :: ts) aus ef5 w9 hd9 ha9
    go_wp2_with (first | (go_at_call 35; refine hpop.mono ?_; rintro e w7 ⟨rfl, k7, hd7, ha7, hgr7⟩; have hb7 := hb9.grown hgr7 (by omega); obtain ⟨g0, g1, g2, g3⟩ := hd7.cells; obtain ⟨i0, i1, i2, i3, i4, i5, i6, i7⟩ := baseAll hb7))
    have kn7 := Kp.grown hgr7 hd9.blk (by decide)
    have q4 := hb7.set 4 (.pointer k7)
    have kn8 := ((Kp.refl w7).set hb7 (by decide) 4 (.pointer k7)).set q4 (by decide) 6 (.bool ef5)
    have hbe7 := hbe9.trans (below_of_grown hgr7 (by omega) (Nat.le_of_lt hb9.lt))
    refine ret47 rfl ⟨rfl, some ⟨pb, 0, none⟩, k7, rh, ef5, t :: ts, q4.set 6 (.bool ef5), kn8.above (kn7.above ha9), kn8.above ha7, hg5, HF5.out, Hrh.out, (HKN.out.trans kn7).trans kn8, (hbe7.setCell (p := ⟨tb, 4, none⟩) (Nat.le_refl _) _).setCell (p := ⟨tb, 6, none⟩) (Nat.le_refl _) _⟩
end Go.Proofs.Qxb6000768a
