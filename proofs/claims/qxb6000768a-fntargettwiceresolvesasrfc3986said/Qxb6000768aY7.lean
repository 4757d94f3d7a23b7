import Derived.Test.Qxb6000768aY6
set_option linter.unusedSimpArgs false
set_option linter.unusedVariables false
namespace Go.Proofs.Qxb6000768a
open Go.RowKit

def small3 (a b c : ByteArray) : Bool := decide (a.size ≤ 1048576 ∧ b.size ≤ 1048576 ∧ c.size ≤ 1048576 ∧ a.size + b.size + c.size ≤ 1048576)

theorem zzBytes26_any (a b c : ByteArray) (ha : a.size ≤ maxLen) (hb : b.size ≤ maxLen) (hc : c.size ≤ maxLen) (w : World) :
    Calls Try.prog 26 #[.string a, .string b, .string c] w fun e w' => e = .returned (.bool (small3 a b c)) ∧ w' = w := by
  unfold maxLen at ha hb hc
  by_cases h1 : a.size ≤ 1048576
  · by_cases h2 : b.size ≤ 1048576
    · by_cases h3 : a.size + b.size ≤ 1048576
      · by_cases h4 : c.size ≤ 1048576
        · by_cases h5 : a.size + b.size + c.size ≤ 1048576
          · have H : Hid (small3 a b c = true) := by simp [small3, Hid]; omega
            go_enter Try.func26, Try.ntmps26
            go_wp2
            go_ret
            exact ⟨by rw [H.out]; rfl, rfl⟩
          · have H : Hid (small3 a b c = false) := by simp [small3, Hid]; omega
            go_enter Try.func26, Try.ntmps26
            go_wp2
            go_ret
            exact ⟨by rw [H.out]; rfl, rfl⟩
        · have H : Hid (small3 a b c = false) := by simp [small3, Hid]; omega
          go_enter Try.func26, Try.ntmps26
          go_wp2
          go_ret
          exact ⟨by rw [H.out]; rfl, rfl⟩
      · have H : Hid (small3 a b c = false) := by simp [small3, Hid]; omega
        go_enter Try.func26, Try.ntmps26
        go_wp2
        go_ret
        exact ⟨by rw [H.out]; rfl, rfl⟩
    · have H : Hid (small3 a b c = false) := by simp [small3, Hid]; omega
      go_enter Try.func26, Try.ntmps26
      go_wp2
      go_ret
      exact ⟨by rw [H.out]; rfl, rfl⟩
  · have H : Hid (small3 a b c = false) := by simp [small3, Hid]; omega
    go_enter Try.func26, Try.ntmps26
    go_wp2
    go_ret
    exact ⟨by rw [H.out]; rfl, rfl⟩

set_option maxRecDepth 1000000 in
set_option maxHeartbeats 8000000 in
theorem walk8 (a0 a1 a2 : ByteArray) (w0 : a0.size ≤ maxLen) (w1 : a1.size ≤ maxLen) (w2 : a2.size ≤ maxLen) (w : World) (hm : MX w) :
    Calls Try.prog 8 #[.string a0, .string a1, .string a2] w fun e w' => e = .returned (.bool true) ∧ Below w.heap.size w w' := by
  have hz := fun w => zzBytes26_any a0 a1 a2 w0 w1 w2 w
  unfold maxLen at w0 w1 w2
  have early : ¬ (a0.size ≤ 4096 ∧ a1.size ≤ 4096 ∧ a2.size ≤ 4096) ∨ small3 a0 a1 a2 = false → Calls Try.prog 8 #[.string a0, .string a1, .string a2] w fun e w' => e = .returned (.bool true) ∧ Below w.heap.size w w' := by
    intro h
    cases hs : small3 a0 a1 a2 with
    | false =>
      rw [hs] at hz
      clear h
      go_enter Try.func8, Try.ntmps8
      go_wp2_with (first | (go_at_call 26; refine (hz _).mono ?_; rintro e w2 ⟨rfl, hw2⟩; have hw2 := hw2.symm; subst hw2))
      go_ret
      exact ⟨rfl, Below.refl _ _⟩
    | true =>
      rw [hs] at hz h
      have h' : ¬ (a0.size ≤ 4096 ∧ a1.size ≤ 4096 ∧ a2.size ≤ 4096) := by simpa using h
      clear h hs
      by_cases g0 : a0.size ≤ 4096
      · by_cases g1 : a1.size ≤ 4096
        · have g2 : ¬ a2.size ≤ 4096 := fun g2 => h' ⟨g0, g1, g2⟩
          clear h'
          go_enter Try.func8, Try.ntmps8
          go_wp2_with (first | (go_at_call 26; refine (hz _).mono ?_; rintro e w2 ⟨rfl, hw2⟩; have hw2 := hw2.symm; subst hw2))
          go_ret
          exact ⟨rfl, Below.refl _ _⟩
        · clear h'
          go_enter Try.func8, Try.ntmps8
          go_wp2_with (first | (go_at_call 26; refine (hz _).mono ?_; rintro e w2 ⟨rfl, hw2⟩; have hw2 := hw2.symm; subst hw2))
          go_ret
          exact ⟨rfl, Below.refl _ _⟩
      · clear h'
        go_enter Try.func8, Try.ntmps8
        go_wp2_with (first | (go_at_call 26; refine (hz _).mono ?_; rintro e w2 ⟨rfl, hw2⟩; have hw2 := hw2.symm; subst hw2))
        go_ret
        exact ⟨rfl, Below.refl _ _⟩
  by_cases hsm : a0.size ≤ 4096 ∧ a1.size ≤ 4096 ∧ a2.size ≤ 4096
  case neg => exact early (.inl hsm)
  cases hs : small3 a0 a1 a2 with
  | false => exact early (.inr hs)
  | true =>
    rw [hs] at hz
    clear hs early
    obtain ⟨g0, g1, g2⟩ := hsm
    have hp0 := fun w => zzParse_any a0 (by omega) w
    have hp1 := fun w => zzParse_any a1 (by omega) w
    have hp2 := fun w => zzParse_any a2 (by omega) w
    have hn := fun w hm => newBase_any a0 (by omega) w hm
    have hl0 := parse_len' a0 4096 g0
    have hl1 := parse_len' a1 4096 g1
    have hl2 := parse_len' a2 4096 g2
    have htg := fun (M : Nat) (W : World) (R : PRef) (sb ab : Nat) (pa qu di : Option Addr) (ro ef : Bool) (scs aus pas qus ds : List ByteArray) (ok : BaseOK M W R sb ab pa qu di ro scs aus pas qus ds) (hm : MX W) (hM : M + a1.size ≤ 9000000) => zzTarget_any a1 ef ok hm hM
    have htg2 := fun (M : Nat) (W : World) (R : PRef) (sb ab : Nat) (pa qu di : Option Addr) (ro ef : Bool) (scs aus pas qus ds : List ByteArray) (ok : BaseOK M W R sb ab pa qu di ro scs aus pas qus ds) (hm : MX W) (hM : M + a2.size ≤ 9000000) => zzTarget_any a2 ef ok hm hM
    generalize parse a0.data.toList = R0 at *
    generalize parse a1.data.toList = R1 at *
    generalize parse a2.data.toList = R2 at *
    have hres := fun w => zzResolve_any R0 R1 (by omega) (by omega) w
    have hrl := resolve_len R0 R1
    have hres2 : ∀ w, Calls Try.prog 25 #[.agg (zrCells (resolve R0 R1).scheme (resolve R0 R1).authority (resolve R0 R1).path (resolve R0 R1).query true (resolve R0 R1).ha (resolve R0 R1).hq), .agg (zrCells R2.scheme R2.authority R2.path R2.query R2.hs R2.ha R2.hq)] w fun e w' =>
      e = .returned (.agg (zrCells (resolve (resolve R0 R1) R2).scheme (resolve (resolve R0 R1) R2).authority (resolve (resolve R0 R1) R2).path (resolve (resolve R0 R1) R2).query true (resolve (resolve R0 R1) R2).ha (resolve (resolve R0 R1) R2).hq)) ∧ Below w.heap.size w w' := fun w => zzResolve_any (resolve R0 R1) R2 (by omega) (by omega) w
    have hrl2 := resolve_len (resolve R0 R1) R2
    have hrec : ∀ w, Calls Try.prog 24 #[.agg (zrCells (resolve (resolve R0 R1) R2).scheme (resolve (resolve R0 R1) R2).authority (resolve (resolve R0 R1) R2).path (resolve (resolve R0 R1) R2).query true (resolve (resolve R0 R1) R2).ha (resolve (resolve R0 R1) R2).hq)] w fun e w' => e = .returned (.string (S (quS (resolve (resolve R0 R1) R2)))) ∧ Below w.heap.size w w' := fun w => zzRecompose_any (resolve (resolve R0 R1) R2) (by omega) w
    have hmp := hm.pos
    unfold zrCells at hp0 hp1 hp2 hres hres2 hrec
    cases h0 : R0.hs with
    | false =>
      rw [h0] at hp0
      go_enter Try.func8, Try.ntmps8
      go_wp2_with (first | (go_at_call 26; refine (hz _).mono ?_; rintro e w2 ⟨rfl, hw2⟩; have hw2 := hw2.symm; subst hw2) | (go_at_call_of 17 (Value.string a0); refine (hp0 _).mono ?_; rintro e w1 ⟨rfl, hb1⟩))
      go_ret
      exact ⟨rfl, by repeat (first | exact hb1 | exact hb1.size | apply Below.drew | apply Below.alloc)⟩
    | true =>
      rw [h0] at hp0
      go_enter Try.func8, Try.ntmps8
      go_upto_region 12 with (first | (go_at_call 26; refine (hz _).mono ?_; rintro e w2 ⟨rfl, hw2⟩; have hw2 := hw2.symm; subst hw2) | (go_at_call_of 17 (Value.string a0); refine (hp0 _).mono ?_; rintro e w1 ⟨rfl, hb1⟩))
      have hB1 : Blk (w1.alloc (.cells #[.string (S R0.scheme), .string (S R0.authority), .string (S R0.path), .string (S R0.query), .bool true, .bool R0.ha, .bool R0.hq] 27)) w1.heap.size (zrCells R0.scheme R0.authority R0.path R0.query true R0.ha R0.hq) 27 := Blk.new _ _ _
      have hb2 := hb1.alloc hb1.size (.cells #[.string (S R0.scheme), .string (S R0.authority), .string (S R0.path), .string (S R0.query), .bool true, .bool R0.ha, .bool R0.hq] 27)
      generalize w1.alloc (.cells #[.string (S R0.scheme), .string (S R0.authority), .string (S R0.path), .string (S R0.query), .bool true, .bool R0.ha, .bool R0.hq] 27) = w2 at *
      generalize w1.heap.size = b1 at *
      clear hb1 hp0 hz
      rw [h0] at hres
      cases h1 : R1.hs with
      | true =>
        rw [h1] at hp1
        go_wp2_with (first | (go_at_call_of 17 (Value.string a1); refine (hp1 _).mono ?_; rintro e w3 ⟨rfl, hb3⟩))
        go_ret
        exact ⟨rfl, ((hb2.trans (hb3.mono hb2.size)).alloc (Nat.le_trans hb2.size hb3.size) _)⟩
      | false =>
        rw [h1] at hp1 hres
        go_upto_region 15 with (first | (go_at_call_of 17 (Value.string a1); refine (hp1 _).mono ?_; rintro e w3 ⟨rfl, hb3⟩))
        have hB2 : Blk (w3.alloc (.cells #[.string (S R1.scheme), .string (S R1.authority), .string (S R1.path), .string (S R1.query), .bool false, .bool R1.ha, .bool R1.hq] 27)) w3.heap.size (zrCells R1.scheme R1.authority R1.path R1.query false R1.ha R1.hq) 27 := Blk.new _ _ _
        have hb4 := (hb2.trans (hb3.mono hb2.size)).alloc (Nat.le_trans hb2.size hb3.size) (.cells #[.string (S R1.scheme), .string (S R1.authority), .string (S R1.path), .string (S R1.query), .bool false, .bool R1.ha, .bool R1.hq] 27)
        have hB1' := (hB1.below hb3 hB1.lt).alloc (.cells #[.string (S R1.scheme), .string (S R1.authority), .string (S R1.path), .string (S R1.query), .bool false, .bool R1.ha, .bool R1.hq] 27)
        generalize w3.alloc (.cells #[.string (S R1.scheme), .string (S R1.authority), .string (S R1.path), .string (S R1.query), .bool false, .bool R1.ha, .bool R1.hq] 27) = w4 at *
        generalize w3.heap.size = b2 at *
        clear hb3 hp1 hB1 hb2
        cases h2 : R2.hs with
        | true =>
          rw [h2] at hp2
          go_wp2_with (first | (go_at_call_of 17 (Value.string a2); refine (hp2 _).mono ?_; rintro e w5 ⟨rfl, hb5⟩))
          go_ret
          exact ⟨rfl, ((hb4.trans (hb5.mono hb4.size)).alloc (Nat.le_trans hb4.size hb5.size) _)⟩
        | false =>
          rw [h2] at hp2 hres2
          go_upto_region 18 with (first | (go_at_call_of 17 (Value.string a2); refine (hp2 _).mono ?_; rintro e w5 ⟨rfl, hb5⟩))
          have hB3 : Blk (w5.alloc (.cells #[.string (S R2.scheme), .string (S R2.authority), .string (S R2.path), .string (S R2.query), .bool false, .bool R2.ha, .bool R2.hq] 27)) w5.heap.size (zrCells R2.scheme R2.authority R2.path R2.query false R2.ha R2.hq) 27 := Blk.new _ _ _
          have hb6 := (hb4.trans (hb5.mono hb4.size)).alloc (Nat.le_trans hb4.size hb5.size) (.cells #[.string (S R2.scheme), .string (S R2.authority), .string (S R2.path), .string (S R2.query), .bool false, .bool R2.ha, .bool R2.hq] 27)
          have hB1'' := (hB1'.below hb5 hB1'.lt).alloc (.cells #[.string (S R2.scheme), .string (S R2.authority), .string (S R2.path), .string (S R2.query), .bool false, .bool R2.ha, .bool R2.hq] 27)
          have hB2'' := (hB2.below hb5 hB2.lt).alloc (.cells #[.string (S R2.scheme), .string (S R2.authority), .string (S R2.path), .string (S R2.query), .bool false, .bool R2.ha, .bool R2.hq] 27)
          generalize w5.alloc (.cells #[.string (S R2.scheme), .string (S R2.authority), .string (S R2.path), .string (S R2.query), .bool false, .bool R2.ha, .bool R2.hq] 27) = w6 at *
          generalize w5.heap.size = b3 at *
          clear hb5 hp2 hB1' hB2 hb4
          have hm6 := hm.below hb6 hmp
          go_upto_region 19 with (first | (go_at_call 19; refine (hn _ hm6).mono ?_; rintro e w7 ⟨sb, ab, pa, qu, di, ro, ef, scs, aus, pas, qus, ds, rfl, ok7, hb7⟩) | (go_at_call 23; refine (htg _ _ _ _ _ _ _ _ _ _ _ _ _ _ _ ok7 (hm6.below hb7 hm6.pos) (by omega)).mono ?_; rintro e w8 ⟨ab8, pa8, qu8, di8, ro8, ef8, aus8, pas8, qus8, ds8, rfl, ok8, hb8⟩; unfold baseCells))
          have hB4 : Blk (w8.alloc (.cells #[.pointer (some ⟨sb, 0, none⟩), .pointer (some ⟨ab8, 0, none⟩), .pointer pa8, .pointer qu8, .pointer di8, .bool ro8, .bool ef8] 33)) w8.heap.size (baseCells (some ⟨sb, 0, none⟩) (some ⟨ab8, 0, none⟩) pa8 qu8 di8 ro8 ef8) 33 := Blk.new _ _ _
          have s6 := hb6.size
          have s7 := hb7.size
          have s8 := hb8.size
          have hb9 := ((hb6.trans (hb7.mono s6)).trans (hb8.mono (Nat.le_trans s6 s7))).alloc (Nat.le_trans s6 (Nat.le_trans s7 s8)) (.cells #[.pointer (some ⟨sb, 0, none⟩), .pointer (some ⟨ab8, 0, none⟩), .pointer pa8, .pointer qu8, .pointer di8, .bool ro8, .bool ef8] 33)
          have hC1 := ((hB1''.below hb7 hB1''.lt).below hb8 (Nat.lt_of_lt_of_le hB1''.lt s7)).alloc (.cells #[.pointer (some ⟨sb, 0, none⟩), .pointer (some ⟨ab8, 0, none⟩), .pointer pa8, .pointer qu8, .pointer di8, .bool ro8, .bool ef8] 33)
          have hC2 := ((hB2''.below hb7 hB2''.lt).below hb8 (Nat.lt_of_lt_of_le hB2''.lt s7)).alloc (.cells #[.pointer (some ⟨sb, 0, none⟩), .pointer (some ⟨ab8, 0, none⟩), .pointer pa8, .pointer qu8, .pointer di8, .bool ro8, .bool ef8] 33)
          have hC3 := ((hB3.below hb7 hB3.lt).below hb8 (Nat.lt_of_lt_of_le hB3.lt s7)).alloc (.cells #[.pointer (some ⟨sb, 0, none⟩), .pointer (some ⟨ab8, 0, none⟩), .pointer pa8, .pointer qu8, .pointer di8, .bool ro8, .bool ef8] 33)
          have ok9 := ok8.keep ((Kp.refl w8).alloc (.cells #[.pointer (some ⟨sb, 0, none⟩), .pointer (some ⟨ab8, 0, none⟩), .pointer pa8, .pointer qu8, .pointer di8, .bool ro8, .bool ef8] 33))
          generalize w8.alloc (.cells #[.pointer (some ⟨sb, 0, none⟩), .pointer (some ⟨ab8, 0, none⟩), .pointer pa8, .pointer qu8, .pointer di8, .bool ro8, .bool ef8] 33) = w9 at *
          generalize w8.heap.size = b4 at *
          clear ok7 ok8 hb6 hb7 hb8 hB1'' hB2'' hB3 hn htg hm6 s6 s7 s8
          have hm9 := hm.below hb9 hmp
          obtain ⟨e0, e1, e2, e3, e4, e5, e6, e7⟩ := baseAll hB4
          go_upto_region 20 with (first | (go_at_call 23; refine (htg2 _ _ _ _ _ _ _ _ _ _ _ _ _ _ _ ok9 hm9 (by omega)).mono ?_; rintro e w10 ⟨ab6, pa6, qu6, di6, ro6, ef6, aus6, pas6, qus6, ds6, rfl, ok10, hb10⟩) | (go_at_call 18; refine (txt_any ef6 ok10 (by omega)).mono ?_; rintro e w11 ⟨rfl, hb11⟩))
          have s10 := hb10.size
          have hD1 := (hC1.below hb10 hC1.lt).below hb11 (Nat.lt_of_lt_of_le hC1.lt s10)
          have hD2 := (hC2.below hb10 hC2.lt).below hb11 (Nat.lt_of_lt_of_le hC2.lt s10)
          have hD3 := (hC3.below hb10 hC3.lt).below hb11 (Nat.lt_of_lt_of_le hC3.lt s10)
          have s9 := hb9.size
          have hbf := (hb9.trans (hb10.mono s9)).trans (hb11.mono (Nat.le_trans s9 s10))
          have s11 := hbf.size
          clear ok9 ok10 hb9 hb10 hb11 hC1 hC2 hC3 hB4 htg2 hm9 s9 s10 e0 e1 e2 e3 e4 e5 e6 e7 hrl hrl2
          generalize quS (resolve (resolve R0 R1) R2) = Q at *
          generalize resolve (resolve R0 R1) R2 = R012 at *
          generalize resolve R0 R1 = R01 at *
          have HAL : Hid (∀ w', Below w11.heap.size w11 w' → Blk w' b1 (zrCells R0.scheme R0.authority R0.path R0.query true R0.ha R0.hq) 27 ∧ Blk w' b2 (zrCells R1.scheme R1.authority R1.path R1.query false R1.ha R1.hq) 27 ∧ Blk w' b3 (zrCells R2.scheme R2.authority R2.path R2.query false R2.ha R2.hq) 27) := fun w' h => ⟨hD1.below h hD1.lt, hD2.below h hD2.lt, hD3.below h hD3.lt⟩
          obtain ⟨c0, c1, c2, c3, c4, c5, c6, c7⟩ := zrAll hD1
          obtain ⟨d0, d1, d2, d3, d4, d5, d6, d7⟩ := zrAll hD2
          obtain ⟨f0, f1, f2, f3, f4, f5, f6, f7⟩ := zrAll hD3
          clear hD1 hD2 hD3
          have hbr : Below w11.heap.size w11 w11.drew := (Below.refl _ _).drew
          go_region_with (first | (go_at_call_of 25 (Value.agg #[.string (S R0.scheme), .string (S R0.authority), .string (S R0.path), .string (S R0.query), .bool true, .bool R0.ha, .bool R0.hq]); refine (hres _).mono ?_; rintro e w12 ⟨rfl, hb12⟩; have hr12 : Below w11.heap.size w11 w12 := hbr.trans hb12; obtain ⟨g0, g1, g2, g3, g4, g5, g6, g7⟩ := zrAll (HAL.out w12 hr12).2.2) | (go_at_call_of 25 (Value.agg #[.string (S R01.scheme), .string (S R01.authority), .string (S R01.path), .string (S R01.query), .bool true, .bool R01.ha, .bool R01.hq]); refine (hres2 _).mono ?_; rintro e w13 ⟨rfl, hb13⟩; have hr13 : Below w11.heap.size w11 w13 := hr12.trans (hb13.mono hr12.size)) | (go_at_call 24; refine (hrec _).mono ?_; rintro e w14 ⟨rfl, hb14⟩; have hr14 : Below w11.heap.size w11 w14 := hr13.trans (hb14.mono hr13.size)))
          all_goals go_wp2
          all_goals go_ret
          all_goals exact ⟨rfl, hbf.trans (hr14.mono s11)⟩
end Go.Proofs.Qxb6000768a
