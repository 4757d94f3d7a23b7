import Derived.Test.Qxb6000768aX5
import Derived.Test.Qxb6000768aX6
import Derived.Test.Qxb6000768aX7
set_option linter.unusedSimpArgs false
set_option linter.unusedVariables false
namespace Go.Proofs.Qxb6000768a
open Go.RowKit

/-- a target's text through the authority, and whole -/
def auS (R : PRef) : Bs := R.scheme ++ [58] ++ (if R.ha then [47, 47] ++ R.authority else [])
def quS (R : PRef) : Bs := auS R ++ R.path ++ (if R.hq then 63 :: R.query else [])

theorem txt_any {M : Nat} {w : World} {R : PRef} {sb ab : Nat} {pa qu di : Option Addr} {ro : Bool} (ef : Bool) {scs aus pas qus ds : List ByteArray} (h : BaseOK M w R sb ab pa qu di ro scs aus pas qus ds) (hM : M ≤ 100000000) :
    Calls Try.prog 18 #[.agg (baseCells (some ⟨sb, 0, none⟩) (some ⟨ab, 0, none⟩) pa qu di ro ef)] w fun e w' => e = .returned (.tuple #[.string (S (R.scheme ++ [58])), .string (S (auS R)), .string (S (auS R ++ R.path)), .string (S (quS R)), .string (S (auS R ++ flat ds))]) ∧ Below w.heap.size w w' := by
  have e0 := h.scf
  have e1 : flat aus = auS R := by rw [h.auf, h.scf]; rfl
  have e2 : flat pas = auS R ++ R.path := by rw [h.paf, e1]
  have e3 : flat qus = quS R := by rw [h.quf, e2]; rfl
  have l3 := h.len
  have l4 := h.dlen
  have q3 : (flat qus).length = (flat pas).length + (if R.hq then 63 :: R.query else []).length := by rw [h.quf, List.length_append]
  have q2 : (flat pas).length = (flat aus).length + R.path.length := by rw [h.paf, List.length_append]
  have q1 : (flat aus).length = (flat scs).length + (if R.ha then [47, 47] ++ R.authority else []).length := by rw [h.auf, List.length_append]
  have := zzText_any (some ⟨sb, 0, none⟩) (some ⟨ab, 0, none⟩) pa qu di ro ef scs aus pas qus (ds ++ aus) w h.sc h.au h.pa h.qu h.di.chain (by omega) (by omega) (by omega) (by omega) (by omega)
  rw [flat_app, e0, e1, e2, e3] at this
  exact this

theorem zzBytes16_any (s : ByteArray) (hs : s.size ≤ maxLen) (w : World) : Calls Try.prog 16 #[.string s] w fun e w' => e = .returned (.bool (decide (s.size ≤ 1048576))) ∧ w' = w := by
  unfold maxLen at hs
  by_cases h : s.size ≤ 1048576
  · have H : Hid (decide (s.size ≤ 1048576) = true) := decide_eq_true h
    go_enter Try.func16, Try.ntmps16
    go_wp2
    go_ret
    exact ⟨by rw [H.out]; rfl, rfl⟩
  · have H : Hid (decide (s.size ≤ 1048576) = false) := decide_eq_false h
    go_enter Try.func16, Try.ntmps16
    go_wp2
    go_ret
    exact ⟨by rw [H.out]; rfl, rfl⟩

theorem zzWithoutFragment_any (s : ByteArray) (hs : s.size ≤ 10000000) (w : World) : Calls Try.prog 20 #[.string s] w fun e w' => e = .returned (.string (S (cutAt 35 s.data.toList).1)) ∧ w' = w := by
  have hix := fun w => zzIndexByte_any s 35 (by omega) w
  have hl : s.data.toList.length = s.size := blen s
  by_cases hlt : upTo [35] s.data.toList < s.data.toList.length
  · have H1 : Hid ((cutAt 35 s.data.toList).1 = s.data.toList.take (upTo [35] s.data.toList)) := by show _ = _; unfold cutAt; rw [if_pos hlt]
    rw [if_pos hlt] at hix
    generalize upTo [35] s.data.toList = k at *
    have hk : k ≤ s.size := by omega
    have hk0 : (0 : Int) ≤ (k : Int) := by omega
    clear hlt hl
    go_enter Try.func20, Try.ntmps20
    go_wp2_with (first | (go_at_call 32; refine (hix _).mono ?_; rintro e w2 ⟨rfl, hw2⟩; have hw2 := hw2.symm; subst hw2))
    go_ret
    refine ⟨?_, rfl⟩
    rw [H1.out, ← S_eq (ext_take s k)]
    rfl
  · have H1 : Hid ((cutAt 35 s.data.toList).1 = s.data.toList) := by show _ = _; unfold cutAt; rw [if_neg hlt]
    rw [if_neg hlt] at hix
    clear hlt hl
    go_enter Try.func20, Try.ntmps20
    go_wp2_with (first | (go_at_call 32; refine (hix _).mono ?_; rintro e w2 ⟨rfl, hw2⟩; have hw2 := hw2.symm; subst hw2))
    go_ret
    refine ⟨?_, rfl⟩
    rw [H1.out, ← S_of s]
    rfl

theorem below_drewN {B : Nat} {a w : World} (h : Below B a w) (n : Nat) : Below B a (w.drewN n) := ⟨h.os, h.tape, h.output, h.size, h.block⟩
theorem S_size_le {a b : Bs} (h : a.length ≤ b.length) {n : Nat} (hb : (S b).size ≤ n) : (S a).size ≤ n := by rw [S_size] at *; omega

set_option maxRecDepth 1000000 in
set_option maxHeartbeats 4000000 in
theorem walk6 (a0 : ByteArray) (w0 : a0.size ≤ maxLen) (w : World) (hm : MX w) :
    Calls Try.prog 6 #[.string a0] w fun e w' => e = .returned (.bool true) ∧ Below w.heap.size w w' := by
  have hz := fun w => zzBytes16_any a0 w0 w
  unfold maxLen at w0
  by_cases hs : a0.size ≤ 1048576
  · rw [decide_eq_true hs] at hz
    have hp := fun w => zzParse_any a0 (by omega) w
    have hn := fun w hm => newBase_any a0 (by omega) w hm
    have hf := fun w => zzWithoutFragment_any a0 (by omega) w
    have hsp := spell a0.data.toList
    have hlen := parse_len a0.data.toList
    rw [blen] at hlen
    generalize hR : parse a0.data.toList = R at *
    generalize (cutAt 35 a0.data.toList).1 = F at *
    clear hR
    cases hh : R.hs with
    | false =>
      go_enter Try.func6, Try.ntmps6
      go_wp2_with (first | (go_at_call 16; refine (hz _).mono ?_; rintro e w2 ⟨rfl, hw2⟩; have hw2 := hw2.symm; subst hw2) | (go_at_call 17; refine (hp _).mono ?_; rintro e w1 ⟨rfl, hb1⟩; unfold zrCells))
      go_ret
      exact ⟨rfl, by repeat (first | exact hb1 | exact hb1.size | apply Below.drew | apply Below.alloc)⟩
    | true =>
      have hF : F = quS R := hsp hh
      subst hF
      clear hsp
      have hmp := hm.pos
      go_enter Try.func6, Try.ntmps6
      go_upto_region 8 with (first | (go_at_call 16; refine (hz _).mono ?_; rintro e w2 ⟨rfl, hw2⟩; have hw2 := hw2.symm; subst hw2) | (go_at_call 17; refine (hp _).mono ?_; rintro e w1 ⟨rfl, hb1⟩; unfold zrCells))
      have hB1 : Blk (w1.alloc (.cells #[.string (S R.scheme), .string (S R.authority), .string (S R.path), .string (S R.query), .bool true, .bool R.ha, .bool R.hq] 27)) w1.heap.size (zrCells R.scheme R.authority R.path R.query true R.ha R.hq) 27 := Blk.new _ _ _
      have hb2 := hb1.alloc hb1.size (.cells #[.string (S R.scheme), .string (S R.authority), .string (S R.path), .string (S R.query), .bool true, .bool R.ha, .bool R.hq] 27)
      have hm2 := hm.below hb2 hmp
      generalize w1.alloc (.cells #[.string (S R.scheme), .string (S R.authority), .string (S R.path), .string (S R.query), .bool true, .bool R.ha, .bool R.hq] 27) = w2 at *
      generalize w1.heap.size = b at *
      clear hb1 hp hz hm
      go_upto_region 9 with (first | (go_at_call 19; refine (hn _ hm2).mono ?_; rintro e w3 ⟨sb, ab, pa, qu, di, ro, ef, scs, aus, pas, qus, ds, rfl, ok, hb3⟩) | (go_at_call 18; refine (txt_any ef ok (by decide)).mono ?_; rintro e w4 ⟨rfl, hb4⟩))
      have hbl := hB1.lt
      have hB4 : Blk w4 b (zrCells R.scheme R.authority R.path R.query true R.ha R.hq) 27 := (hB1.below hb3 hbl).below hb4 (Nat.lt_of_lt_of_le hbl hb3.size)
      have hbe : Below w.heap.size w w4 := (hb2.trans (hb3.mono hb2.size)).trans (hb4.mono (Nat.le_trans hb2.size hb3.size))
      have hdl := ok.dlen
      have e1 : flat aus = auS R := by rw [ok.auf, ok.scf]; rfl
      rw [flat_app, e1] at hdl
      have hdf := ok.good.df
      generalize hD : flat ds = D at *
      clear hD ok hb2 hb3 hb4 hB1 hn hm2 e1 hmp
      have c0 := hB4.cell 0
      have c1 := hB4.cell 1
      have c2 := hB4.cell 2
      have c5 := hB4.cell 5
      simp [zrCells] at c0 c1 c2 c5
      have z0 : (S (R.scheme ++ [58])).size ≤ 2000000 := by rw [S_size]; simp; omega
      have z0' : (S R.scheme).size ≤ 2000000 := by rw [S_size]; omega
      have z1 : (S R.authority).size ≤ 2000000 := by rw [S_size]; omega
      have z2 : (S R.path).size ≤ 2000000 := by rw [S_size]; omega
      have zq : (quS R).length ≤ 2000010 := by
        unfold quS auS
        cases R.ha <;> cases R.hq <;> simp <;> omega
      have zq' : (S (quS R)).size ≤ 2000010 := by rw [S_size]; exact zq
      have zp : (S (auS R ++ R.path)).size ≤ 2000010 := by rw [S_size]; unfold quS at zq; simp at zq ⊢; omega
      have za : (S (auS R)).size ≤ 2000010 := by rw [S_size] at *; simp at zp; omega
      have zd : (S (auS R ++ D)).size ≤ 2000010 := by rw [S_size]; exact hdl
      have zx : (S (R.scheme ++ [58]) ++ ⟨#[47, 47]⟩).size ≤ 2000010 := by rw [app_size]; show (S (R.scheme ++ [58])).size + 2 ≤ _; omega
      have n2 : ((S (R.scheme ++ [58])).toList == (S R.scheme ++ ⟨#[58]⟩).toList) = true := by rw [show S R.scheme ++ ⟨#[58]⟩ = S (R.scheme ++ [58]) from S_snoc _ [58]]; simp
      have n4 : ((S (auS R ++ R.path)).toList == (S (auS R) ++ S R.path).toList) = true := by rw [S_add]; simp
      have hp1 := fun w => zzHasPrefix_any (S (quS R)) (S (auS R ++ R.path)) w (by omega) (by omega)
      have hp2 := fun w => zzHasPrefix_any (S (auS R ++ D)) (S (auS R)) w (by omega) (by omega)
      rw [S_data, S_data, show List.isPrefixOf (auS R ++ R.path) (quS R) = true from List.isPrefixOf_iff_prefix.2 ⟨_, rfl⟩] at hp1
      rw [S_data, S_data, show List.isPrefixOf (auS R) (auS R ++ D) = true from List.isPrefixOf_iff_prefix.2 ⟨_, rfl⟩] at hp2
      have hle : (S (auS R)).size ≤ (S (auS R ++ D)).size := by rw [S_size, S_size]; simp
      have hdx := fun w => zzDotFree_any ((S (auS R ++ D)).extract (S (auS R)).size (S (auS R ++ D)).size) (Nat.le_trans (ext_le _ _ _) (by omega)) (by rw [ext_list, S_data, S_size]; simpa using hdf) w
      have hau : Hid (auS R = R.scheme ++ [58] ++ (if R.ha then [47, 47] ++ R.authority else [])) := rfl
      clear hdl hlen zq hdf
      go_upto_if 41 with (first | (go_at_call 20; refine (hf _).mono ?_; rintro e w5 ⟨rfl, hw5⟩; have hw5 := hw5.symm; subst hw5))
      go_cut [9] (fun s9 wx => s9 = .string (S (auS R)) ∧ w4 = wx)
      case first =>
        cases hha : R.ha with
        | false =>
          go_wp2
          go_meet
          exact ⟨by rw [hau.out, hha]; simp, rfl⟩
        | true =>
          go_wp2
          go_meet
          refine ⟨?_, rfl⟩
          rw [hau.out, hha]
          exact str_eq (by simp [S])
      case rest =>
        obtain ⟨rfl, rfl⟩ := hcut
        go_wp2_with (first | (go_at_call_of 21 (Value.string (S (quS R))); refine (hp1 _).mono ?_; rintro e w5 ⟨rfl, n5, rfl⟩) | (go_at_call_of 21 (Value.string (S (auS R ++ D))); refine (hp2 _).mono ?_; rintro e w6 ⟨rfl, n6, rfl⟩) | (go_at_call 15; refine (hdx _).mono ?_; rintro e w7 ⟨rfl, rfl⟩))
        go_ret
        exact ⟨rfl, below_drewN hbe _⟩
  · rw [decide_eq_false hs] at hz
    go_enter Try.func6, Try.ntmps6
    go_wp2_with (first | (go_at_call 16; refine (hz _).mono ?_; rintro e w2 ⟨rfl, hw2⟩; have hw2 := hw2.symm; subst hw2))
    go_ret
    exact ⟨rfl, Below.refl _ _⟩
end Go.Proofs.Qxb6000768a
