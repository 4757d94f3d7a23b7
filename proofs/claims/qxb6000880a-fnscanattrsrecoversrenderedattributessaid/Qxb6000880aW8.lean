import Derived.Test.Qxb6000880aL2
set_option linter.unusedSimpArgs false
set_option linter.unusedVariables false
namespace Go.Proofs.Qxb6000880a
open Go.RowKit

theorem tl_mem (xs : List ByteArray) (s : ByteArray) (h : s ∈ xs) : s.size ≤ tl xs := by
  obtain ⟨k, hk, rfl⟩ := List.getElem_of_mem h
  have := tl_le1 xs k hk
  omega
theorem rd_cell {α : Type} {f : α → Value} {w : World} {a : Option Addr} {c : Nat} {xs : List α} (h : RD f w (.slice a xs.length c) xs) (k : Nat) (hk : k < xs.length) : ∃ x, a = some x ∧ w.cell? (x.add k) = some (f xs[k]) := by
  obtain ⟨a', c', e, _, h⟩ := h
  simp only [Value.slice.injEq] at e
  obtain ⟨rfl, _, rfl⟩ := e
  rcases h with ⟨_, rfl, _⟩ | ⟨x, rfl, h⟩
  · simp at hk
  · exact ⟨x, rfl, h k hk⟩
theorem bel_cell {w W : World} {x : Addr} {v : Value} (h : w.cell? x = some v) (hb : Below w.heap.size w W) : W.cell? x = some v := by
  rw [hb.cell (World.block_lt_of_cell? w _ h)]; exact h

theorem drew_add (w : World) (n m : Nat) : (w.drewN n).drewN m = w.drewN (n + m) := by
  simp [World.drewN, Nat.add_assoc]
theorem rd_sub {w : World} {gT cT o n : Nat} {T l : Bs} (hT : TX w gT T) (h : (T.drop o).take n = l) (hn : l.length = n) (hle : o + n ≤ T.length) (hc : T.length ≤ cT) : RD u8v w (.slice (some ⟨gT, o, none⟩) l.length (cT - o)) l := by
  refine ⟨_, _, rfl, by omega, .inr ⟨_, rfl, fun i hi => ?_⟩⟩
  have hi2 : o + i < T.length := by omega
  rw [addn, hT _ hi2]
  have e : l[i]? = T[o + i]? := by rw [← h, List.getElem?_take_of_lt (by omega), List.getElem?_drop]
  rw [List.getElem?_eq_getElem hi, List.getElem?_eq_getElem hi2] at e
  rw [Option.some.inj e]; rfl

set_option maxRecDepth 1000000 in
set_option maxHeartbeats 4000000 in
theorem walk7 (v0 v1 v2 v3 : Value) (ns vs : List ByteArray) (qs : Bs) (bs : List Bool) (w : World) (h0 : RD Value.string w v0 ns) (h1 : RD Value.string w v1 vs) (h2 : RD u8v w v2 qs) (h3 : RD Value.bool w v3 bs)
    (l0 : ns.length ≤ maxLen) (l1 : vs.length ≤ maxLen) (l2 : qs.length ≤ maxLen) (l3 : bs.length ≤ maxLen) (h0s : ∀ s ∈ ns, s.size ≤ maxLen) (h1s : ∀ s ∈ vs, s.size ≤ maxLen) :
    Calls Try.prog 7 #[v0, v1, v2, v3] w fun e w' => e = .returned (.bool true) ∧ Below w.heap.size w w' := by
  obtain ⟨a0, c0, e0⟩ := h0.len
  obtain ⟨a1, c1, e1⟩ := h1.len
  obtain ⟨a2, c2, e2⟩ := h2.len
  obtain ⟨a3, c3, e3⟩ := h3.len
  subst e0 e1 e2 e3
  have k18 := zzBytes_any ns vs _ _ a2 a3 qs.length c2 bs.length c3 w h0 h1 l0 l1 l2 l3 h0s h1s
  have k19 := sizeOK_any ns vs _ _ a2 a3 qs.length c2 bs.length c3 w h0 h1 l0 l1 l2 l3 h0s h1s
  generalize hb18 : decide (ns.length + tl ns + vs.length + tl vs + qs.length + bs.length ≤ 1048576) = b18 at k18
  cases b18 with
  | false =>
    clear h0 h1 h2 h3 k19
    go_enter Try.func7, Try.ntmps7
    go_wp2_with (first | (go_at_call 18; refine k18.mono ?_; rintro e wz ⟨rfl, hw2⟩; have hw2 := hw2.symm; subst hw2))
    go_ret
    exact ⟨rfl, Below.refl _ _⟩
  | true =>
  clear hb18
  generalize hb19 : decide (ns.length ≤ 65536 ∧ vs.length ≤ 65536 ∧ qs.length ≤ 65536 ∧ bs.length ≤ 65536 ∧ 16 * ns.length + 16 * vs.length + qs.length + bs.length + tl ns + tl vs ≤ 1048576) = b19 at k19
  cases b19 with
  | false =>
    clear h0 h1 h2 h3
    go_enter Try.func7, Try.ntmps7
    go_wp2_with (first | (go_at_call 18; refine k18.mono ?_; rintro e wz ⟨rfl, hw2⟩; have hw2 := hw2.symm; subst hw2) | (go_at_call 19; refine k19.mono ?_; rintro e wz ⟨rfl, hw2⟩; have hw2 := hw2.symm; subst hw2))
    go_ret
    exact ⟨rfl, Below.refl _ _⟩
  | true =>
  obtain ⟨m0, m1, m2, m3, m4⟩ := of_decide_eq_true hb19
  clear hb19 l0 l1 l2 l3 h0s h1s
  obtain ⟨T20, hT20, k20⟩ := premise_any ns vs qs bs _ _ _ _ w h0 h1 h2 h3 m0 m1 m2 m3 (fun s hs => by have := tl_mem ns s hs; omega) (fun s hs => by have := tl_mem vs s hs; omega)
  cases T20 with
  | false =>
    clear h0 h1 h2 h3 hT20
    go_enter Try.func7, Try.ntmps7
    go_wp2_with (first | (go_at_call 18; refine k18.mono ?_; rintro e wz ⟨rfl, hw2⟩; have hw2 := hw2.symm; subst hw2) | (go_at_call 19; refine k19.mono ?_; rintro e wz ⟨rfl, hw2⟩; have hw2 := hw2.symm; subst hw2) | (go_at_call 20; refine k20.mono ?_; rintro e wz ⟨rfl, hw2⟩; have hw2 := hw2.symm; subst hw2))
    go_ret
    exact ⟨rfl, Below.refl _ _⟩
  | true =>
  have hP := hT20.1 rfl
  clear hT20
  have hok := mkA_ok ns vs qs bs hP
  have hbd := mkA_bound ns vs qs bs hP.1 hP.2.1 hP.2.2.1
  have hal := mkA_len ns vs qs bs
  have HG : Hid (∀ k (h0 : k < ns.length) (h1 : k < vs.length) (h2 : k < qs.length) (h3 : k < bs.length) (h : k < (mkA ns vs qs bs).length), (mkA ns vs qs bs)[k] = ⟨ns[k].data.toList, vs[k].data.toList, qs[k], bs[k]⟩) := mkA_get ns vs qs bs
  have E1 : Hid (vs.length = ns.length) := hP.1
  have E2 : Hid (qs.length = ns.length) := hP.2.1
  have E3 : Hid (bs.length = ns.length) := hP.2.2.1
  have hrl : (rends (mkA ns vs qs bs)).length ≤ 1048576 := by omega
  have HAL : Hid ((mkA ns vs qs bs).length = ns.length) := hal
  clear hbd hP hal
  generalize mkA ns vs qs bs = ats at *
  have kA := cloneS_any _ ns w h0 (by omega)
  go_enter Try.func7, Try.ntmps7
  go_upto_region 8 with (first | (go_at_call 18; refine k18.mono ?_; rintro e wz ⟨rfl, hw2⟩; have hw2 := hw2.symm; subst hw2) | (go_at_call 19; refine k19.mono ?_; rintro e wz ⟨rfl, hw2⟩; have hw2 := hw2.symm; subst hw2) | (go_at_call 20; refine k20.mono ?_; rintro e wz ⟨rfl, hw2⟩; have hw2 := hw2.symm; subst hw2) | (go_at_call 21; refine kA.mono ?_; rintro e w1 ⟨v0', rfl, r0, hb1⟩; obtain ⟨b0, d0, rfl⟩ := r0.len))
  have kB := cloneS_any _ vs w1 (h1.below hb1) (by omega)
  go_upto_region 9 with (first | (go_at_call 21; refine kB.mono ?_; rintro e w2 ⟨v1', rfl, r1, hb2⟩; obtain ⟨b1, d1, rfl⟩ := r1.len))
  have kC := cloneU_any _ qs w2 ((h2.below hb1).below hb2) (by omega)
  go_upto_region 10 with (first | (go_at_call 10; refine kC.mono ?_; rintro e w3 ⟨v2', rfl, r2, hb3⟩; obtain ⟨b2, d2, rfl⟩ := r2.len))
  have kD := cloneB_any _ bs w3 (((h3.below hb1).below hb2).below hb3) (by omega)
  go_upto_region 11 with (first | (go_at_call 22; refine kD.mono ?_; rintro e w4 ⟨v3', rfl, r3, hb4⟩; obtain ⟨b3, d3, rfl⟩ := r3.len))
  replace r0 := ((r0.below hb2).below hb3).below hb4
  replace r1 := (r1.below hb3).below hb4
  replace r2 := r2.below hb4
  have HB4 : Hid (Below w.heap.size w w4) := by
    have s1 := hb1.size
    have s2 := hb2.size
    have s3 := hb3.size
    exact ((hb1.trans (hb2.mono s1)).trans (hb3.mono (by omega))).trans (hb4.mono (by omega))
  clear kA kB kC kD k18 k19 k20 h0 h1 h2 h3 hb1 hb2 hb3 hb4 m1 m2 m3 m4
  have hmk := run_make1 t22 (by decide) 0 3 (by omega) (by omega)
  simp only [Int.natCast_zero, show ((3 : Nat) : Int) = 3 from rfl] at hmk
  go_upto_region 12 with fail
  have how0 : OW u8v (w4.alloc (.cells (madeCells #[.int .u8 0] 3) 5)) w4.heap.size 5 (.slice (some ⟨w4.heap.size, 0, none⟩) 0 3) [] := World.ownsRow_made w4 _ 3 (Nat.le_refl _) (by unfold maxLen; omega) (by simpa using size_madeCells _ _)
  have hb5 : Below w4.heap.size w4 (w4.alloc (.cells (madeCells #[.int .u8 0] 3) 5)) := (Below.refl _ _).alloc (Nat.le_refl _) _
  clear hmk
  generalize w4.alloc (.cells (madeCells #[.int .u8 0] 3) 5) = w5 at *
  have hB5 := hb5.size
  obtain ⟨B, HB⟩ : ∃ B, Hid (w4.heap.size = B) := ⟨_, rfl⟩
  rw [HB.out] at how0 hb5 hB5
  rw [HB.out]
  go_upto_region 13 with (first | (at_builtin; refine wpList_two rfl (.tmp 45) (.tmp 46) rfl B _ [] rfl (how0.alloc _) w5.heap.size 2 60 120 rfl (fun j x h => by rw [(Blk.new w5 _ 5).cell]; simpa [u8v] using h) (by simp) (by simp; omega) ?_; intro t0 w6 ho6 hb6))
  replace hb6 := (hb5.alloc hB5 _).trans hb6
  have hB6 := hb6.size
  rw [HB.out] at hB6
  clear how0 hb5 hB5
  go_wp2_with fail
  go_loopg [9, 10] ns.length (fun g v i wx => ∃ k : Nat, k + g = ns.length ∧ i = .int .i64 k ∧ OW u8v wx B 5 v (60 :: 120 :: rends (ats.take k)) ∧ Below B w4 wx ∧ B ≤ wx.heap.size)
  case atStart => exact ⟨0, by omega, rfl, by simpa [rends] using ho6, hb6, hB6⟩
  case round =>
    obtain ⟨k, hkg, rfl, how, hb, hBr⟩ := hrel
    by_cases hlt : k < ns.length
    · have y1 : k < vs.length := by rw [E1.out]; exact hlt
      have y2 : k < qs.length := by rw [E2.out]; exact hlt
      have y3 : k < bs.length := by rw [E3.out]; exact hlt
      have ya : k < ats.length := by rw [HAL.out]; exact hlt
      obtain ⟨x0, rfl, q0⟩ := rd_cell r0 k hlt
      obtain ⟨x1, rfl, q1⟩ := rd_cell r1 k y1
      obtain ⟨x2, rfl, q2⟩ := rd_cell r2 k y2
      obtain ⟨x3, rfl, q3⟩ := rd_cell r3 k y3
      have hsn := rends_snoc ats k ya
      rw [HG.out k hlt y1 y2 y3 ya] at hsn
      have hln := Nat.le_trans (rends_take_le ats (k + 1)) hrl
      have HC : Hid (∀ W, Below B w4 W → W.cell? (x0.add k) = some (.string ns[k]) ∧ W.cell? (x1.add k) = some (.string vs[k]) ∧ W.cell? (x2.add k) = some (.int .u8 (qs[k].toNat : Int)) ∧ W.cell? (x3.add k) = some (.bool bs[k])) := by
        intro W hW
        rw [← HB.out] at hW
        exact ⟨bel_cell q0 hW, bel_cell q1 hW, bel_cell q2 hW, bel_cell q3 hW⟩
      clear q0 q1 q2 q3 r0 r1 r2 r3
      generalize ns[k] = nm at *
      generalize vs[k] = vv at *
      generalize qs[k] = q at *
      generalize bs[k] = b at *
      obtain ⟨X, HX⟩ : ∃ X, Hid (60 :: 120 :: rends (ats.take k) = X) := ⟨_, rfl⟩
      rw [HX.out] at how
      have HN : Hid (60 :: 120 :: rends (ats.take (k + 1)) = X ++ rend ⟨nm.data.toList, vv.data.toList, q, b⟩) := by show _ = _; rw [hsn, ← HX.out]; rfl
      have hXl : X.length + 1 + nm.size ≤ 1048578 ∧ (b = false → X.length + nm.size + vv.size + 2 ≤ 1048578) := by
        have h1 := congrArg List.length hsn
        have h2 := congrArg List.length HX.out
        simp only [rend, List.length_cons, List.length_append, ba_len] at h1 h2
        refine ⟨by omega, fun hb => ?_⟩
        subst hb
        simp only [tailOf, Bool.false_eq_true, if_false, List.length_cons, List.length_append, ba_len] at h1
        omega
      obtain ⟨hx1, hx2⟩ := hXl
      have HX2 : Hid (b = false → X.length + nm.size + vv.size + 2 ≤ 1048578) := hx2
      clear hsn hln hx2
      go_upto_region 17 with (first | (at_builtin; refine wpList_chr rfl (.tmp 54) (.tmp 55) rfl B _ _ rfl (how.alloc _) wr.heap.size 1 32 rfl (by rw [(Blk.new wr _ 5).cell]; rfl) (by omega) (by simp; omega) ?_; intro t1 w7 ho7 hb7))
      replace hb7 := (hb.alloc hBr _).trans hb7
      have hB7 : B ≤ w7.heap.size := by have h1 := hb7.size; have h2 := HB.out; omega
      clear how hb hBr
      obtain ⟨p0, p1, p2, p3⟩ := HC.out w7 hb7
      go_upto_region 18 with (first | (at_builtin; refine wpList_str rfl (.tmp 57) (.tmp 61) rfl B _ _ rfl ho7 nm rfl (by simp; omega) hB7 ?_; intro t2 w8 ho8 hb8))
      replace hb8 := hb7.trans hb8
      have hB8 : B ≤ w8.heap.size := by have h1 := hb8.size; have h2 := HB.out; omega
      clear ho7 hb7 hB7 p0 p1 p2 p3
      obtain ⟨p0, p1, p2, p3⟩ := HC.out w8 hb8
      cases b with
      | true =>
        go_wp2
        go_roundg (gk - 1)
        case measure => omega
        case rel => exact ⟨k + 1, by omega, by go_num, by rw [HN.out]; simpa [rend, tailOf] using ho8, hb8, hB8⟩
      | false =>
        have hx2 := HX2.out rfl
        go_upto_region 20 with (first | (at_builtin; refine wpList_chr rfl (.tmp 67) (.tmp 68) rfl B _ _ rfl (ho8.alloc _) w8.heap.size 1 61 rfl (by rw [(Blk.new w8 _ 5).cell]; rfl) (by simp [ba_len]; omega) (by simp; omega) ?_; intro t3 w9 ho9 hb9))
        replace hb9 := (hb8.alloc hB8 _).trans hb9
        have hB9 : B ≤ w9.heap.size := by have h1 := hb9.size; have h2 := HB.out; omega
        clear ho8 hb8 hB8 p0 p1 p2 p3
        obtain ⟨p0, p1, p2, p3⟩ := HC.out w9 hb9
        by_cases hq : q = 0
        · have nq : ((q.toNat : Int) != 0) = false := by rw [hq]; rfl
          have HQ : Hid (q = 0) := hq
          clear hq
          go_upto_region 23 with (first | (at_builtin; refine wpList_str rfl (.tmp 82) (.tmp 86) rfl B _ _ rfl ho9 vv rfl (by simp [ba_len]; omega) hB9 ?_; intro t4 w10 ho10 hb10))
          replace hb10 := hb9.trans hb10
          have hB10 : B ≤ w10.heap.size := by have h1 := hb10.size; have h2 := HB.out; omega
          clear ho9 hb9 hB9 p0 p1 p2 p3
          obtain ⟨p0, p1, p2, p3⟩ := HC.out w10 hb10
          go_wp2
          go_roundg (gk - 1)
          case measure => omega
          case rel => exact ⟨k + 1, by omega, by go_num, by rw [HN.out]; simpa [rend, tailOf, qq, HQ.out] using ho10, hb10, hB10⟩
        · have nq : ((q.toNat : Int) != 0) = true := by have := u8_ne q 0; simpa [hq] using this
          have HQ : Hid (¬ q = 0) := hq
          clear hq
          go_upto_region 22 with (first | (at_builtin; refine wpList_chr rfl (.tmp 75) (.tmp 80) rfl B _ _ rfl (ho9.alloc _) w9.heap.size 1 q rfl (by rw [(Blk.new w9 _ 5).cell]; rfl) (by simp [ba_len]; omega) (by simp; omega) ?_; intro t5 wa hoa hba))
          replace hba := (hb9.alloc hB9 _).trans hba
          have hBa : B ≤ wa.heap.size := by have h1 := hba.size; have h2 := HB.out; omega
          clear ho9 hb9 hB9 p0 p1 p2 p3
          obtain ⟨p0, p1, p2, p3⟩ := HC.out wa hba
          go_upto_region 23 with (first | (at_builtin; refine wpList_str rfl (.tmp 82) (.tmp 86) rfl B _ _ rfl hoa vv rfl (by simp [ba_len]; omega) hBa ?_; intro t4 w10 ho10 hb10))
          replace hb10 := hba.trans hb10
          have hB10 : B ≤ w10.heap.size := by have h1 := hb10.size; have h2 := HB.out; omega
          clear hoa hba hBa p0 p1 p2 p3
          obtain ⟨p0, p1, p2, p3⟩ := HC.out w10 hb10
          go_wp2_with (first | (at_builtin; refine wpList_chr rfl (.tmp 93) (.tmp 98) rfl B _ _ rfl (ho10.alloc _) w10.heap.size 1 q rfl (by rw [(Blk.new w10 _ 5).cell]; rfl) (by simp [ba_len]; omega) (by simp; omega) ?_; intro t6 wb hob hbb))
          replace hbb := (hb10.alloc hB10 _).trans hbb
          have hBb : B ≤ wb.heap.size := by have h1 := hbb.size; have h2 := HB.out; omega
          go_roundg (gk - 1)
          case measure => omega
          case rel => exact ⟨k + 1, by omega, by go_num, by rw [HN.out]; simpa [rend, tailOf, qq, HQ.out] using hob, hbb, hBb⟩
    · obtain rfl : k = ns.length := by omega
      rw [← HAL.out, List.take_length] at how
      obtain ⟨T, HT⟩ : ∃ T, Hid (T = tagOf ats) := ⟨_, rfl⟩
      have HTl : Hid (T.length = (rends ats).length + 3) := by show _ = _; rw [HT.out]; simp [tagOf]
      have hTl : 0 < T.length := by have := HTl.out; omega
      have hTl2 : T.length ≤ 10000000 := by have := HTl.out; omega
      go_upto_region 26 with (first | (at_builtin; refine wpList_chr rfl (.tmp 100) (.tmp 101) rfl B _ _ rfl (how.alloc _) wr.heap.size 1 62 rfl (by rw [(Blk.new wr _ 5).cell]; rfl) (by simp; omega) (by simp; omega) ?_; intro tt wT hoT hbT; have hoT : OW u8v wT B 5 tt T := (by rw [HT.out]; exact hoT); obtain ⟨gT, cT, htt, hcT, hTX⟩ := ow_tx hoT hTl; subst htt))
      replace hbT := (hb.alloc hBr _).trans hbT
      have hBT : B ≤ wT.heap.size := by have h1 := hbT.size; have h2 := HB.out; omega
      have k23 := zzScan_any gT cT ats hok T HT.out wT hTX hcT hTl2
      have hfl : Hid ((found 2 ats).length = ns.length) := by show _ = _; rw [found_len, HAL.out]
      clear how hb hBr hoT
      go_upto_region 27 with (first | (go_at_call 23; refine k23.mono ?_; rintro e wS ⟨s1, s2, s3, s4, s5, rfl, R1, R2, R3, R4, R5, hbS⟩; obtain ⟨f1, g1, rfl⟩ := R1.len; obtain ⟨f2, g2, rfl⟩ := R2.len; obtain ⟨f3, g3, rfl⟩ := R3.len; obtain ⟨f4, g4, rfl⟩ := R4.len; obtain ⟨f5, g5, rfl⟩ := R5.len; rw [hfl.out]))
      have hTS : TX wS gT T := fun i hi => bel_cell (hTX i hi) hbS
      have hbW := hbT.trans (hbS.mono hBT)
      rw [← HB.out] at hbW
      replace r0 := r0.below hbW
      replace r1 := r1.below hbW
      replace r2 := r2.below hbW
      replace r3 := r3.below hbW
      have HBW : Hid (∀ n, Below w.heap.size w (wS.drewN n)) := fun n => (HB4.out.trans (hbW.mono HB4.out.size)).trans ⟨rfl, rfl, rfl, Nat.le_refl _, fun _ _ => rfl⟩
      clear k23 hTX hbT hbS hbW HB4
      go_wp2_with fail
      go_loopg [17] ns.length (fun g i wx => ∃ k m : Nat, k + g = ns.length ∧ i = .int .i64 k ∧ wx = wS.drewN m)
      case atStart => exact ⟨0, 0, by omega, rfl, rfl⟩
      case round =>
        obtain ⟨k, m, hkg, rfl, rfl⟩ := hrel
        by_cases hlt : k < ns.length
        · have y1 : k < vs.length := by rw [E1.out]; exact hlt
          have y2 : k < qs.length := by rw [E2.out]; exact hlt
          have y3 : k < bs.length := by rw [E3.out]; exact hlt
          have ya : k < ats.length := by rw [HAL.out]; exact hlt
          have yf : k < (found 2 ats).length := by rw [hfl.out]; exact hlt
          obtain ⟨x0, rfl, q0⟩ := rd_cell r0 k hlt
          obtain ⟨x1, rfl, q1⟩ := rd_cell r1 k y1
          obtain ⟨x2, rfl, q2⟩ := rd_cell r2 k y2
          obtain ⟨x3, rfl, q3⟩ := rd_cell r3 k y3
          obtain ⟨z1, rfl, o1⟩ := rd_cell R1 k yf
          obtain ⟨z2, rfl, o2⟩ := rd_cell R2 k yf
          obtain ⟨z3, rfl, o3⟩ := rd_cell R3 k yf
          obtain ⟨z4, rfl, o4⟩ := rd_cell R4 k yf
          obtain ⟨z5, rfl, o5⟩ := rd_cell R5 k yf
          clear r0 r1 r2 r3 R1 R2 R3 R4 R5
          have hfg := found_get 2 ats k ya yf
          have hkey := tag_key ats k ya
          have hval := tag_val ats k ya
          rw [← HT.out] at hkey hval
          rw [hfg] at o1 o2 o3 o4 o5
          rw [HG.out k hlt y1 y2 y3 ya] at hkey hval o1 o2 o3 o4 o5
          clear hfg
          generalize 2 + (rends (ats.take k)).length = P at *
          unfold u8v at q2
          generalize ns[k] = nm at *
          generalize vs[k] = vv at *
          generalize qs[k] = q at *
          generalize bs[k] = b at *
          obtain ⟨hk1, hk2, hk3⟩ := hkey
          simp only [kf, sf, ef, qf, bf, fnd, ba_len] at o1 o2 o3 o4 o5
          simp only [fnd, ba_len] at hk1 hk2
          have kS : ∀ n, Calls Try.prog 24 #[.slice (some ⟨gT, P + 1, none⟩) nm.size (cT - (P + 1)), .string nm] ((wS.drewN m).drewN n) fun e w' => e = .returned (.bool true) ∧ ∃ n', w' = (wS.drewN m).drewN n' := by
            intro n
            have := rd_sub (w := (wS.drewN m).drewN n) hTS hk1 (ba_len nm) (by omega) hcT
            rw [ba_len] at this
            refine (sameText_any _ nm.data.toList nm _ this (by rw [ba_len]; omega) rfl).mono ?_
            rintro e w' ⟨rfl, n', rfl⟩
            exact ⟨rfl, n + n', drew_add _ _ _⟩
          have p0 : (wS.drewN m).cell? (x0.add k) = _ := q0
          have p1 : (wS.drewN m).cell? (x1.add k) = _ := q1
          have p2 : (wS.drewN m).cell? (x2.add k) = _ := q2
          have p3 : (wS.drewN m).cell? (x3.add k) = _ := q3
          have w1' : (wS.drewN m).cell? (z1.add k) = _ := o1
          have w2' : (wS.drewN m).cell? (z2.add k) = _ := o2
          have w3' : (wS.drewN m).cell? (z3.add k) = _ := o3
          have w4' : (wS.drewN m).cell? (z4.add k) = _ := o4
          have w5' : (wS.drewN m).cell? (z5.add k) = _ := o5
          have HWS : Hid (∀ n, ∃ m', (wS.drewN m).drewN n = wS.drewN m') := fun n => ⟨m + n, drew_add _ _ _⟩
          have hTQ : TX (wS.drewN m) gT T := hTS
          clear q0 q1 q2 q3 o1 o2 o3 o4 o5 hTS
          generalize wS.drewN m = wq at *
          have hbb : (b != b) = false := by cases b <;> rfl
          cases b with
          | true =>
            simp only [if_true] at w2' w3' w4'
            have hst : P + 1 + nm.size ≤ T.length := by omega
            generalize P + 1 + nm.size = S at *
            have e1 : ¬ ((S : Int) < 0) := by omega
            have e2 : ¬ ((T.length : Int) < (S : Int)) := by omega
            go_upto_region 33 with fail
            go_quiet ((go_at_call 24; exact (kS _).mono (fun _ _ h => h)))
            go_upto_region 35 with fail
            go_quiet (fail)
            go_upto_region 37 with fail
            go_quiet (fail)
            go_upto_region 40 with fail
            go_quiet (fail)
            go_wp2
            go_roundg (gk - 1)
            case measure => omega
            case rel => exact (HWS.out _).elim (fun m' e => ⟨k + 1, m', by omega, by go_num, e⟩)
          | false =>
            obtain ⟨hv1, hv2, hv3⟩ := hval rfl
            simp only [fnd, Bool.false_eq_true, if_false, ba_len] at w2' w3' w4' hv1 hv2 hv3
            generalize P + 1 + nm.size + 1 + (qq q).length = st at *
            obtain ⟨en, hen⟩ : ∃ en, Hid (st + vv.size = en) := ⟨_, rfl⟩
            rw [hen.out] at w3' hv2
            have HKV : Hid (∀ W, TX W gT T → ∀ n, Calls Try.prog 24 #[.slice (some ⟨gT, st, none⟩) vv.size (cT - st), .string vv] (W.drewN n) fun e w' => e = .returned (.bool true) ∧ ∃ n', w' = W.drewN n') := by
              intro W hW n
              have := rd_sub (w := W.drewN n) hW hv1 (ba_len vv) (by have := hen.out; omega) hcT
              rw [ba_len] at this
              refine (sameText_any _ vv.data.toList vv _ this (by rw [ba_len]; have := hen.out; omega) rfl).mono ?_
              rintro e w' ⟨rfl, n', rfl⟩
              exact ⟨rfl, n + n', drew_add _ _ _⟩
            have e1 : ¬ ((st : Int) < 0) := by omega
            have e2 : ¬ ((en : Int) < (st : Int)) := by have := hen.out; omega
            have e3 : ¬ ((T.length : Int) < (en : Int)) := by omega
            have e4 : ((st : Int) ≤ (en : Int)) := by have := hen.out; omega
            have e5 : ((en : Int) ≤ (cT : Int)) := by omega
            have e6 : ¬ (cT = st) := by omega
            have e7 : en - st = vv.size := by have := hen.out; omega
            clear hv1 hv2 hv3 hval hk1 hk2 hk3
            go_upto_region 33 with fail
            go_quiet ((go_at_call 24; exact (kS _).mono (fun _ _ h => h)))
            go_upto_region 35 with fail
            go_quiet (fail)
            go_upto_region 37 with fail
            go_quiet (fail)
            go_upto_region 42 with fail
            go_quiet (fail)
            go_upto_region 44 with fail
            clear kS
            generalize hW : World.drewN _ nq = w9
            have kV := HKV.out w9 (by rw [← hW]; exact hTQ)
            have f1 : w9.cell? (x1.add k) = some (.string vv) := by rw [← hW]; exact p1
            have f2 : w9.cell? (z2.add k) = some (.int .i64 st) := by rw [← hW]; exact w2'
            have f3 : w9.cell? (z3.add k) = some (.int .i64 en) := by rw [← hW]; exact w3'
            have HW9 : Hid (∀ n, ∃ m', w9.drewN n = wS.drewN m') := by rw [← hW]; intro n; simp only [drew_add]; exact HWS.out _
            clear hW p0 p1 p2 p3 w1' w2' w3' w4' w5' hTQ HKV HWS
            go_quiet ((go_at_call 24; exact (kV _).mono (fun _ _ h => h)))
            go_wp2
            go_roundg (gk - 1)
            case measure => omega
            case rel => exact (HW9.out _).elim (fun m' e => ⟨k + 1, m', by omega, by go_num, e⟩)
        · obtain rfl : k = ns.length := by omega
          go_wp2
          go_ret
          exact ⟨rfl, HBW.out _⟩
end Go.Proofs.Qxb6000880a
