import Derived.Test.Qxb6000768aY5
import Derived.Test.Qxb6000768aW9
set_option linter.unusedSimpArgs false
set_option linter.unusedVariables false
namespace Go.Proofs.Qxb6000768a
open Go.RowKit

theorem zzBytes22_any (a b : ByteArray) (ha : a.size ≤ maxLen) (hb : b.size ≤ maxLen) (w : World) :
    Calls Try.prog 22 #[.string a, .string b] w fun e w' => e = .returned (.bool (small2 a b)) ∧ w' = w := by
  unfold maxLen at ha hb
  by_cases h1 : a.size ≤ 1048576
  · by_cases h2 : b.size ≤ 1048576
    · by_cases h3 : a.size + b.size ≤ 1048576
      · have H : Hid (small2 a b = true) := by simp [small2, Hid]; omega
        go_enter Try.func22, Try.ntmps22
        go_wp2
        go_ret
        exact ⟨by rw [H.out]; rfl, rfl⟩
      · have H : Hid (small2 a b = false) := by simp [small2, Hid]; omega
        go_enter Try.func22, Try.ntmps22
        go_wp2
        go_ret
        exact ⟨by rw [H.out]; rfl, rfl⟩
    · have H : Hid (small2 a b = false) := by simp [small2, Hid]; omega
      go_enter Try.func22, Try.ntmps22
      go_wp2
      go_ret
      exact ⟨by rw [H.out]; rfl, rfl⟩
  · have H : Hid (small2 a b = false) := by simp [small2, Hid]; omega
    go_enter Try.func22, Try.ntmps22
    go_wp2
    go_ret
    exact ⟨by rw [H.out]; rfl, rfl⟩

theorem resolve_len (b r : PRef) : (resolve b r).scheme.length + (resolve b r).authority.length + (resolve b r).path.length + (resolve b r).query.length ≤ (b.scheme.length + b.authority.length + b.path.length + b.query.length) + (r.scheme.length + r.authority.length + r.path.length + r.query.length) + 1 := by
  have h1 : (resolve b r).scheme.length = b.scheme.length := rfl
  have h2 : (resolve b r).authority.length ≤ b.authority.length + r.authority.length := by unfold resolve; simp only; split <;> omega
  have h4 : (resolve b r).query.length ≤ b.query.length + r.query.length := by unfold resolve; simp only; split <;> omega
  have h3 : (resolve b r).path.length ≤ b.path.length + r.path.length + 1 := by
    have e1 := RD_len [] r.path
    have e2 := RD_len [] (merge b r.path)
    have e3 := merge_len b r.path
    simp only [List.length_nil] at e1 e2
    unfold resolve resolvePath
    simp only
    split
    · omega
    · split
      · omega
      · split <;> omega
  omega
theorem parse_len' (s : ByteArray) (n : Nat) (h : s.size ≤ n) : (parse s.data.toList).scheme.length + (parse s.data.toList).authority.length + (parse s.data.toList).path.length + (parse s.data.toList).query.length ≤ n := by
  have := parse_len s.data.toList
  rw [blen] at this
  omega

set_option maxRecDepth 1000000 in
set_option maxHeartbeats 8000000 in
theorem walk7 (a0 a1 : ByteArray) (w0 : a0.size ≤ maxLen) (w1 : a1.size ≤ maxLen) (w : World) (hm : MX w) :
    Calls Try.prog 7 #[.string a0, .string a1] w fun e w' => e = .returned (.bool true) ∧ Below w.heap.size w w' := by
  have hz := fun w => zzBytes22_any a0 a1 w0 w1 w
  unfold maxLen at w0 w1
  cases hs : small2 a0 a1 with
  | false =>
    rw [hs] at hz
    go_enter Try.func7, Try.ntmps7
    go_wp2_with (first | (go_at_call 22; refine (hz _).mono ?_; rintro e w2 ⟨rfl, hw2⟩; have hw2 := hw2.symm; subst hw2))
    go_ret
    exact ⟨rfl, Below.refl _ _⟩
  | true =>
    rw [hs] at hz
    clear hs
    by_cases g0 : a0.size ≤ 4096
    · by_cases g1 : a1.size ≤ 4096
      · have hp0 := fun w => zzParse_any a0 (by omega) w
        have hp1 := fun w => zzParse_any a1 (by omega) w
        have hn := fun w hm => newBase_any a0 (by omega) w hm
        have hl0 := parse_len' a0 4096 g0
        have hl1 := parse_len' a1 4096 g1
        have htg := fun (M : Nat) (W : World) (sb ab : Nat) (pa qu di : Option Addr) (ro ef : Bool) (scs aus pas qus ds : List ByteArray) (ok : BaseOK M W (parse a0.data.toList) sb ab pa qu di ro scs aus pas qus ds) (hm : MX W) (hM : M + a1.size ≤ 9000000) => zzTarget_any a1 ef ok hm hM
        generalize parse a0.data.toList = R0 at *
        generalize parse a1.data.toList = R1 at *
        have hres := fun w => zzResolve_any R0 R1 (by omega) (by omega) w
        have hrl := resolve_len R0 R1
        have hrec : ∀ w, Calls Try.prog 24 #[.agg (zrCells (resolve R0 R1).scheme (resolve R0 R1).authority (resolve R0 R1).path (resolve R0 R1).query true (resolve R0 R1).ha (resolve R0 R1).hq)] w fun e w' => e = .returned (.string (S (quS (resolve R0 R1)))) ∧ Below w.heap.size w w' := fun w => zzRecompose_any (resolve R0 R1) (by omega) w
        have hmp := hm.pos
        unfold zrCells at hp0 hp1 hres hrec
        cases h0 : R0.hs with
        | false =>
          rw [h0] at hp0
          go_enter Try.func7, Try.ntmps7
          go_wp2_with (first | (go_at_call 22; refine (hz _).mono ?_; rintro e w2 ⟨rfl, hw2⟩; have hw2 := hw2.symm; subst hw2) | (go_at_call_of 17 (Value.string a0); refine (hp0 _).mono ?_; rintro e w1 ⟨rfl, hb1⟩))
          go_ret
          exact ⟨rfl, by repeat (first | exact hb1 | exact hb1.size | apply Below.drew | apply Below.alloc)⟩
        | true =>
          rw [h0] at hp0
          go_enter Try.func7, Try.ntmps7
          go_upto_region 10 with (first | (go_at_call 22; refine (hz _).mono ?_; rintro e w2 ⟨rfl, hw2⟩; have hw2 := hw2.symm; subst hw2) | (go_at_call_of 17 (Value.string a0); refine (hp0 _).mono ?_; rintro e w1 ⟨rfl, hb1⟩))
          have hB1 : Blk (w1.alloc (.cells #[.string (S R0.scheme), .string (S R0.authority), .string (S R0.path), .string (S R0.query), .bool true, .bool R0.ha, .bool R0.hq] 27)) w1.heap.size (zrCells R0.scheme R0.authority R0.path R0.query true R0.ha R0.hq) 27 := Blk.new _ _ _
          have hb2 := hb1.alloc hb1.size (.cells #[.string (S R0.scheme), .string (S R0.authority), .string (S R0.path), .string (S R0.query), .bool true, .bool R0.ha, .bool R0.hq] 27)
          generalize w1.alloc (.cells #[.string (S R0.scheme), .string (S R0.authority), .string (S R0.path), .string (S R0.query), .bool true, .bool R0.ha, .bool R0.hq] 27) = w2 at *
          generalize w1.heap.size = b1 at *
          clear hb1 hp0 hz
          rw [h0] at hres
          cases h1 : R1.hs with
          | true =>
            rw [h1] at hp1
            go_wp2_with (first | (go_at_call_of 17 (Value.string a1); refine (hp1 _).mono ?_; rintro e w3 ⟨rfl, hb3⟩))
            go_ret
            exact ⟨rfl, ((hb2.trans (hb3.mono hb2.size)).alloc (Nat.le_trans hb2.size hb3.size) _)⟩
          | false =>
            rw [h1] at hp1 hres
            go_upto_region 13 with (first | (go_at_call_of 17 (Value.string a1); refine (hp1 _).mono ?_; rintro e w3 ⟨rfl, hb3⟩))
            have hB2 : Blk (w3.alloc (.cells #[.string (S R1.scheme), .string (S R1.authority), .string (S R1.path), .string (S R1.query), .bool false, .bool R1.ha, .bool R1.hq] 27)) w3.heap.size (zrCells R1.scheme R1.authority R1.path R1.query false R1.ha R1.hq) 27 := Blk.new _ _ _
            have hb4 := (hb2.trans (hb3.mono hb2.size)).alloc (Nat.le_trans hb2.size hb3.size) (.cells #[.string (S R1.scheme), .string (S R1.authority), .string (S R1.path), .string (S R1.query), .bool false, .bool R1.ha, .bool R1.hq] 27)
            have hB1' := (hB1.below hb3 hB1.lt).alloc (.cells #[.string (S R1.scheme), .string (S R1.authority), .string (S R1.path), .string (S R1.query), .bool false, .bool R1.ha, .bool R1.hq] 27)
            generalize w3.alloc (.cells #[.string (S R1.scheme), .string (S R1.authority), .string (S R1.path), .string (S R1.query), .bool false, .bool R1.ha, .bool R1.hq] 27) = w4 at *
            generalize w3.heap.size = b2 at *
            clear hb3 hp1 hB1 hb2
            have hm4 := hm.below hb4 hmp
            go_upto_region 14 with (first | (go_at_call 19; refine (hn _ hm4).mono ?_; rintro e w5 ⟨sb, ab, pa, qu, di, ro, ef, scs, aus, pas, qus, ds, rfl, ok5, hb5⟩) | (go_at_call 23; refine (htg _ _ _ _ _ _ _ _ _ _ _ _ _ _ ok5 (hm4.below hb5 hm4.pos) (by omega)).mono ?_; rintro e w6 ⟨ab6, pa6, qu6, di6, ro6, ef6, aus6, pas6, qus6, ds6, rfl, ok6, hb6⟩) | (go_at_call 18; refine (txt_any ef6 ok6 (by omega)).mono ?_; rintro e w7 ⟨rfl, hb7⟩))
            have hB1f := ((hB1'.below hb5 hB1'.lt).below hb6 (Nat.lt_of_lt_of_le hB1'.lt hb5.size)).below hb7 (Nat.lt_of_lt_of_le hB1'.lt (Nat.le_trans hb5.size hb6.size))
            have hB2f := ((hB2.below hb5 hB2.lt).below hb6 (Nat.lt_of_lt_of_le hB2.lt hb5.size)).below hb7 (Nat.lt_of_lt_of_le hB2.lt (Nat.le_trans hb5.size hb6.size))
            have s5 := hb4.size
            have s6 := hb5.size
            have s7 := hb6.size
            have hbf := ((hb4.trans (hb5.mono s5)).trans (hb6.mono (Nat.le_trans s5 s6))).trans (hb7.mono (Nat.le_trans s5 (Nat.le_trans s6 s7)))
            have s8 := hbf.size
            obtain ⟨c0, c1, c2, c3, c4, c5, c6, c7⟩ := zrAll hB1f
            obtain ⟨d0, d1, d2, d3, d4, d5, d6, d7⟩ := zrAll hB2f
            clear ok5 ok6 hb5 hb6 hb7 hB1' hB2 hB1f hB2f hn htg hb4 hm4 s5 s6 s7
            generalize quS (resolve R0 R1) = Q at *
            go_wp2_with (first | (go_at_call 25; refine (hres _).mono ?_; rintro e w8 ⟨rfl, hb8⟩) | (go_at_call 24; refine (hrec _).mono ?_; rintro e w9 ⟨rfl, hb9⟩))
            go_ret
            exact ⟨rfl, (hbf.trans (hb8.mono s8)).trans (hb9.mono (Nat.le_trans s8 hb8.size))⟩
      · go_enter Try.func7, Try.ntmps7
        go_wp2_with (first | (go_at_call 22; refine (hz _).mono ?_; rintro e w2 ⟨rfl, hw2⟩; have hw2 := hw2.symm; subst hw2))
        go_ret
        exact ⟨rfl, Below.refl _ _⟩
    · go_enter Try.func7, Try.ntmps7
      go_wp2_with (first | (go_at_call 22; refine (hz _).mono ?_; rintro e w2 ⟨rfl, hw2⟩; have hw2 := hw2.symm; subst hw2))
      go_ret
      exact ⟨rfl, Below.refl _ _⟩
end Go.Proofs.Qxb6000768a
