import Derived.Test.Qxb6001093aW6
set_option linter.unusedSimpArgs false
set_option linter.unusedVariables false
namespace Go.Proofs.Qxb6001093a
open Go.RowKit

theorem arg_head {w : World} {a : Option Addr} {c : Nat} {t : Bs} (h : Arg w (.slice a t.length c) t) : t.length = 0 ∨ ∃ x cc, a = some x ∧ 0 < t.length ∧ t.head? = some cc ∧ w.cell? x = some (.int .u8 (cc.toNat : Int)) := by
  rcases h with ⟨_, rfl⟩ | ⟨x, c', e, h⟩
  · exact .inl rfl
  · cases t with
    | nil => exact .inl rfl
    | cons d tt =>
      have hc := h 0 (by simp)
      simp at e hc
      exact .inr ⟨x, d, e.1, by simp, rfl, hc⟩

set_option maxRecDepth 1000000 in
set_option maxHeartbeats 4000000 in
theorem walk6 (v0 v1 v3 : Value) (name t U : Bs) (b : Bool) (w : World) (h0 : Arg w v0 name) (h1 : Arg w v1 t) (h3 : Arg w v3 U) (l0 : name.length ≤ maxLen) (l1 : t.length ≤ maxLen) (l3 : U.length ≤ maxLen) :
    Calls Try.prog 6 #[v0, v1, .bool b, v3] w fun e w' => e = .returned (.bool true) ∧ Below w.heap.size w w' := by
  obtain ⟨a0, c0, e0⟩ := h0.len
  obtain ⟨a1, c1, e1⟩ := h1.len
  obtain ⟨a3, c3, e3⟩ := h3.len
  subst e0 e1 e3
  have hz := fun w => zzBytes_any a0 a1 a3 name.length c0 t.length c1 U.length c3 b l0 l1 l3 w
  unfold maxLen at l0 l1 l3
  cases hs : small3 name.length t.length U.length with
  | false =>
    rw [hs] at hz
    go_enter Try.func6, Try.ntmps6
    go_wp2_with (first | (go_at_call 19; refine (hz _).mono ?_; rintro e w2 ⟨rfl, hw2⟩; have hw2 := hw2.symm; subst hw2))
    go_ret
    exact ⟨rfl, Below.refl _ _⟩
  | true =>
    rw [hs] at hz
    clear hs
    by_cases g0 : name.length ≤ 65536
    case neg =>
      go_enter Try.func6, Try.ntmps6
      go_wp2_with (first | (go_at_call 19; refine (hz _).mono ?_; rintro e w2 ⟨rfl, hw2⟩; have hw2 := hw2.symm; subst hw2))
      go_ret
      exact ⟨rfl, Below.refl _ _⟩
    by_cases g1 : t.length ≤ 65536
    case neg =>
      go_enter Try.func6, Try.ntmps6
      go_wp2_with (first | (go_at_call 19; refine (hz _).mono ?_; rintro e w2 ⟨rfl, hw2⟩; have hw2 := hw2.symm; subst hw2))
      go_ret
      exact ⟨rfl, Below.refl _ _⟩
    by_cases g2 : U.length ≤ 65536
    case neg =>
      go_enter Try.func6, Try.ntmps6
      go_wp2_with (first | (go_at_call 19; refine (hz _).mono ?_; rintro e w2 ⟨rfl, hw2⟩; have hw2 := hw2.symm; subst hw2))
      go_ret
      exact ⟨rfl, Below.refl _ _⟩
    have hqr := fun w => quoter_any b w
    generalize (if b then 96 else 34 : UInt8) = q at hqr
    have hhd := arg_head h1
    by_cases ht : t.head? = some q
    · rcases hhd with h | ⟨x, cc, rfl, hp, hq, hc0⟩
      · rw [List.eq_nil_of_length_eq_zero h] at ht; simp at ht
      · rw [hq] at ht
        obtain rfl : cc = q := by simpa using ht
        have n1 : ((cc.toNat : Int) == (cc.toNat : Int)) = true := by simp
        clear h0 h1 h3 ht hq
        go_enter Try.func6, Try.ntmps6
        go_wp2_with (first | (go_at_call 19; refine (hz _).mono ?_; rintro e w2 ⟨rfl, hw2⟩; have hw2 := hw2.symm; subst hw2) | (go_at_call 20; refine (hqr _).mono ?_; rintro e w2 ⟨rfl, hw2⟩; have hw2 := hw2.symm; subst hw2))
        go_ret
        exact ⟨rfl, Below.refl _ _⟩
    · go_enter Try.func6, Try.ntmps6
      go_upto_region 10 with (first | (go_at_call 19; refine (hz _).mono ?_; rintro e w2 ⟨rfl, hw2⟩; have hw2 := hw2.symm; subst hw2) | (go_at_call 20; refine (hqr _).mono ?_; rintro e w2 ⟨rfl, hw2⟩; have hw2 := hw2.symm; subst hw2))
      go_cut [0, 1, 2, 3, 9, 42] (fun s0 s1 s2 s3 s9 s42 wx => s42 = .bool false ∧ s0 = .slice a0 name.length c0 ∧ s1 = .slice a1 t.length c1 ∧ s2 = .bool b ∧ s3 = .slice a3 U.length c3 ∧ s9 = .int .u8 (q.toNat : Int) ∧ w = wx)
      case first =>
        rcases hhd with h | ⟨x, cc, rfl, hp, hq, hc0⟩
        · clear h0 h1 h3 ht
          go_wp2
          go_meet
          exact ⟨rfl, rfl, rfl, rfl, rfl, rfl, rfl⟩
        · have hne : cc ≠ q := by intro e; apply ht; rw [hq, e]
          have n1 : ((cc.toNat : Int) == (q.toNat : Int)) = false := by rw [beq_eq_false_iff_ne]; intro e; exact hne (UInt8.toNat_inj.1 (by omega))
          clear h0 h1 h3 ht hq hne
          go_wp2
          go_meet
          exact ⟨rfl, rfl, rfl, rfl, rfl, rfl, rfl⟩
      case rest =>
        obtain ⟨rfl, rfl, rfl, rfl, rfl, rfl, rfl⟩ := hcut
        have k0 := clone_any (.slice a0 name.length c0) name w h0 (by omega)
        clear hz hqr hhd
        go_upto_region 13 with (first | (go_at_call 12; refine k0.mono ?_; rintro e w1 ⟨v1, rfl, ho1, hf1, hb1⟩; obtain ⟨ra1, rc1, rfl⟩ := ownLen ho1))
        have k1 := clone_any (.slice a1 t.length c1) t w1 (h1.below hb1) (by omega)
        go_upto_region 14 with (first | (go_at_call 12; refine k1.mono ?_; rintro e w2 ⟨v2, rfl, ho2, hf2, hb2⟩; obtain ⟨ra2, rc2, rfl⟩ := ownLen ho2))
        have k2 := clone_any (.slice a3 U.length c3) U w2 ((h3.below hb1).below hb2) (by omega)
        go_upto_region 15 with (first | (go_at_call 12; refine k2.mono ?_; rintro e w3 ⟨v3, rfl, ho3, hf3, hb3⟩; obtain ⟨ra3, rc3, rfl⟩ := ownLen ho3))
        have r1 : Reads w3 _ name := (ho1.reads.below hb2).below hb3
        have k3 := quote_any _ name q w3 r1 (by omega)
        go_upto_region 16 with (first | (go_at_call 21; refine k3.mono ?_; rintro e w4 ⟨v4, rfl, ho4, hb4⟩; obtain ⟨ra4, rc4, rfl⟩ := ownLen ho4))
        have hql : (qt q name).length ≤ 10000000 := by
          have := (dbl_len q name).2
          unfold qt; simp; omega
        have k4 := concat_any _ _ (qt q name) t w4 ho4.arg ((ho2.below hb3).below hb4).arg hql (by omega)
        go_upto_region 17 with (first | (go_at_call 18; refine k4.mono ?_; rintro e w5 ⟨v5, rfl, ho5, hb5⟩; obtain ⟨gT, cT, rfl, hcT, hT⟩ := ownCells ho5 (by unfold qt; simp); obtain ⟨TL, HTL⟩ : ∃ TL, Hid ((qt q name ++ t).length = TL) := ⟨_, rfl⟩; rw [HTL.out]))
        have k5 := zzQuoted_any gT cT q name t U _ w5 hcT hT ((hf3.below hb4).below hb5) ht (by omega) (by omega) (by omega)
        rw [HTL.out] at k5
        have HB5 : Hid (Below w.heap.size w w5) := by
          have s1 := hb1.size
          have s2 := hb2.size
          have s3 := hb3.size
          have s4 := hb4.size
          exact (((hb1.trans (hb2.mono s1)).trans (hb3.mono (by omega))).trans (hb4.mono (by omega))).trans (hb5.mono (by omega))
        have HS5 : Hid (w.heap.size ≤ w5.heap.size) := HB5.out.size
        have r15 : Reads w5 _ name := (r1.below hb4).below hb5
        have r35 : Reads w5 _ U := (ho3.reads.below hb4).below hb5
        clear k0 k1 k2 k3 k4 ho1 ho2 ho3 ho4 ho5 hf1 hf2 hf3 hb1 hb2 hb3 hb4 hb5 h0 h1 h3 hT r1
        clear HTL hcT
        go_upto_region 18 with (first | (go_at_call 22; refine k5.mono ?_; rintro e w6 ⟨tok, vu', rfl, hrt, ⟨U', na, nc, rfl, hnc, hru⟩, hb6⟩; obtain ⟨ta, tc, htok⟩ : ∃ a c, tok = .slice a name.length c := (by obtain ⟨a, c, e, _⟩ := hrt; exact ⟨a, c, e⟩); subst htok; obtain ⟨UL, HUL⟩ : ∃ UL, Hid ((U ++ U').length = UL) := ⟨_, rfl⟩; rw [HUL.out]))
        have r16 := r15.below hb6
        have r36 := r35.below hb6
        have k6 := equal_any _ _ name name w6 hrt r16 (by omega) (by omega)
        rw [decide_eq_true (rfl : name = name)] at k6
        have k7 : ∀ n c, Calls Try.prog 23 #[.slice na U.length c, .slice ra3 U.length rc3] (w6.drewN n) fun e w' => e = .returned (.bool true) ∧ ∃ m, w' = (w6.drewN n).drewN m := by
          intro n c
          have hrp : Reads (w6.drewN n) (.slice na U.length c) U := by
            obtain ⟨a, cc, e, h⟩ := hru
            simp only [Value.slice.injEq] at e
            obtain ⟨rfl, _, rfl⟩ := e
            refine ⟨_, _, rfl, ?_⟩
            rcases h with ⟨rfl, h⟩ | ⟨x, rfl, h⟩
            · exact .inl ⟨rfl, (List.append_eq_nil_iff.1 h).1⟩
            · refine .inr ⟨x, rfl, fun i hi => ?_⟩
              have := h i (by rw [List.length_append]; omega)
              rw [List.getElem_append_left hi] at this
              exact this
          have := equal_any _ _ U U (w6.drewN n) hrp r36 (by omega) (by omega)
          rwa [decide_eq_true (rfl : U = U)] at this
        have HB6 : Hid (∀ n, Below w.heap.size w (w6.drewN n)) := fun n => bel_drewN (HB5.out.trans (hb6.mono HS5.out))
        have hul : (U.length : Int) ≤ ((U ++ U').length : Int) := by rw [List.length_append]; omega
        have hul2 : (U.length : Int) ≤ (nc : Int) := by rw [List.length_append] at hnc; omega
        have HNA : Hid (na = none → U.length = 0 ∧ (U ++ U').length = 0) := by
          intro e
          obtain ⟨a, cc, e', h⟩ := hru
          simp only [Value.slice.injEq] at e'
          rcases h with ⟨rfl, h⟩ | ⟨x, rfl, h⟩
          · rw [h, (List.append_eq_nil_iff.1 h).1]; simp
          · rw [e] at e'; simp at e'
        clear hru hrt hnc r15 r35 r16 r36 k5 hb6
        rw [HUL.out] at hul HNA
        go_upto_region 20 with (first | (go_at_call 23; refine k6.mono ?_; rintro e w7 ⟨rfl, n7, rfl⟩))
        cases na with
        | none =>
          obtain ⟨hu0, hul0⟩ := HNA.out rfl
          rw [hu0] at k7 ⊢
          rw [hul0]
          clear hu0 hul0 HUL g2 l3 hul HNA
          go_wp2_with (first | (go_at_call 23; refine (k7 _ _).mono ?_; rintro e w8 ⟨rfl, n8, rfl⟩))
          go_ret
          exact ⟨rfl, HB6.out _⟩
        | some x =>
          go_wp2_with (first | (go_at_call 23; refine (k7 _ _).mono ?_; rintro e w8 ⟨rfl, n8, rfl⟩))
          go_ret
          exact ⟨rfl, HB6.out _⟩
end Go.Proofs.Qxb6001093a
