import Derived.Test.Qxb6000880aW2
set_option linter.unusedSimpArgs false
set_option linter.unusedVariables false
namespace Go.Proofs.Qxb6000880a
open Go.RowKit

def badN (c : UInt8) : Bool := sp c || c == 47 || c == 62 || c == 61
def badV (c : UInt8) : Bool := sp c || c == 62
def OKs (nm v : ByteArray) (q : UInt8) (b : Bool) : Prop :=
  nm.size ≠ 0 ∧ (∀ t (h : t < nm.size), badN nm[t] = false) ∧ (b = false → ((q = 34 ∨ q = 39) ∧ ∀ t (h : t < v.size), v[t] ≠ q) ∨ (q = 0 ∧ (∃ h : 0 < v.size, v[0] ≠ 34 ∧ v[0] ≠ 39) ∧ ∀ t (h : t < v.size), badV v[t] = false))
def Prem (ns vs : List ByteArray) (qs : Bs) (bs : List Bool) : Prop :=
  vs.length = ns.length ∧ qs.length = ns.length ∧ bs.length = ns.length ∧ ∀ j (h0 : j < ns.length) (h1 : j < vs.length) (h2 : j < qs.length) (h3 : j < bs.length), OKs ns[j] vs[j] qs[j] bs[j]

theorem tstT {c : UInt8} {n : UInt8} (h : c = n) : ((c.toNat : Int) == (n.toNat : Int)) = true := by rw [h]; simp

set_option maxRecDepth 100000 in
set_option maxHeartbeats 8000000 in
theorem premise_any (ns vs : List ByteArray) (qs : Bs) (bs : List Bool) (v0 v1 v2 v3 : Value) (w : World) (h0 : RD Value.string w v0 ns) (h1 : RD Value.string w v1 vs) (h2 : RD u8v w v2 qs) (h3 : RD Value.bool w v3 bs)
    (l0 : ns.length ≤ 65536) (l1 : vs.length ≤ 65536) (l2 : qs.length ≤ 65536) (l3 : bs.length ≤ 65536) (h0s : ∀ s ∈ ns, s.size ≤ 1048576) (h1s : ∀ s ∈ vs, s.size ≤ 1048576) :
    ∃ T : Bool, (T = true ↔ Prem ns vs qs bs) ∧ Calls Try.prog 20 #[v0, v1, v2, v3] w fun e w' => e = .returned (.bool T) ∧ w' = w := by
  classical
  refine ⟨decide (Prem ns vs qs bs), by simp, ?_⟩
  obtain ⟨a0, c0, rfl, hc0, h0⟩ := h0
  obtain ⟨a1, c1, rfl, hc1, h1⟩ := h1
  obtain ⟨a2, c2, rfl, hc2, h2⟩ := h2
  obtain ⟨a3, c3, rfl, hc3, h3⟩ := h3
  unfold u8v at h2
  have hs := fun c w => zzIsSpace_any c w
  obtain ⟨T, HTT⟩ : ∃ T : Bool, Hid (decide (Prem ns vs qs bs) = T) := ⟨_, rfl⟩
  rw [HTT.out]
  have HF : Hid (¬ (Prem ns vs qs bs) → T = false) := by intro h; rw [← HTT.out]; exact decide_eq_false h
  have HT : Hid ((Prem ns vs qs bs) → T = true) := by intro h; rw [← HTT.out]; exact decide_eq_true h
  clear HTT
  by_cases e1 : vs.length = ns.length
  case neg =>
    have H9 : Hid (T = false) := HF.out (fun h => e1 h.1)
    have t1 : ((vs.length : Int) != (ns.length : Int)) = true := by rw [bne_iff_ne]; omega
    clear HF HT h0 h1 h2 h3
    go_enter Try.func20, Try.ntmps20
    go_wp2
    go_ret
    exact ⟨by rw [H9.out]; rfl, rfl⟩
  have t1 : ((vs.length : Int) != (ns.length : Int)) = false := by rw [e1]; simp
  by_cases e2 : qs.length = ns.length
  case neg =>
    have H9 : Hid (T = false) := HF.out (fun h => e2 h.2.1)
    have t2 : ((qs.length : Int) != (ns.length : Int)) = true := by rw [bne_iff_ne]; omega
    clear HF HT h0 h1 h2 h3
    go_enter Try.func20, Try.ntmps20
    go_wp2
    go_ret
    exact ⟨by rw [H9.out]; rfl, rfl⟩
  have t2 : ((qs.length : Int) != (ns.length : Int)) = false := by rw [e2]; simp
  by_cases e3 : bs.length = ns.length
  case neg =>
    have H9 : Hid (T = false) := HF.out (fun h => e3 h.2.2.1)
    have t3 : ((bs.length : Int) != (ns.length : Int)) = true := by rw [bne_iff_ne]; omega
    clear HF HT h0 h1 h2 h3
    go_enter Try.func20, Try.ntmps20
    go_wp2
    go_ret
    exact ⟨by rw [H9.out]; rfl, rfl⟩
  have t3 : ((bs.length : Int) != (ns.length : Int)) = false := by rw [e3]; simp
  have E1 : Hid (vs.length = ns.length) := e1
  have E2 : Hid (qs.length = ns.length) := e2
  have E3 : Hid (bs.length = ns.length) := e3
  clear e1 e2 e3
  go_enter Try.func20, Try.ntmps20
  go_wp2_with fail
  clear t1 t2 t3
  go_loopg [9] ns.length (fun g i wx => ∃ k : Nat, k + g = ns.length ∧ i = .int .i64 k ∧ Hid (∀ j, j < k → ∀ (h0 : j < ns.length) (h1 : j < vs.length) (h2 : j < qs.length) (h3 : j < bs.length), OKs ns[j] vs[j] qs[j] bs[j]) ∧ w = wx)
  case atStart => exact ⟨0, by omega, rfl, fun j hj => absurd hj (by omega), rfl⟩
  case round =>
    obtain ⟨k, hkg, rfl, HOK, rfl⟩ := hrel
    by_cases hlt : k < ns.length
    case neg =>
      have H9 : Hid (T = true) := HT.out ⟨E1.out, E2.out, E3.out, fun j a0 a1 a2 a3 => HOK.out j (by omega) a0 a1 a2 a3⟩
      clear HF HT h0 h1 h2 h3
      go_wp2
      go_ret
      exact ⟨by rw [H9.out]; rfl, rfl⟩
    have y1 : k < vs.length := by rw [E1.out]; exact hlt
    have y2 : k < qs.length := by rw [E2.out]; exact hlt
    have y3 : k < bs.length := by rw [E3.out]; exact hlt
    rcases h0 with ⟨_, rfl, _⟩ | ⟨x0, rfl, h0⟩
    · simp at hlt
    rcases h1 with ⟨_, rfl, _⟩ | ⟨x1, rfl, h1⟩
    · simp at y1
    rcases h2 with ⟨_, rfl, _⟩ | ⟨x2, rfl, h2⟩
    · simp at y2
    rcases h3 with ⟨_, rfl, _⟩ | ⟨x3, rfl, h3⟩
    · simp at y3
    have d0 := h0 k hlt
    have d1 := h1 k y1
    have d2 := h2 k y2
    have d3 := h3 k y3
    have m0 := h0s ns[k] (List.getElem_mem hlt)
    have m1 := h1s vs[k] (List.getElem_mem y1)
    have HFK : Hid (¬ OKs ns[k] vs[k] qs[k] bs[k] → T = false) := fun h => HF.out (fun hp => h (hp.2.2.2 k hlt y1 y2 y3))
    have HTK : Hid (OKs ns[k] vs[k] qs[k] bs[k] → ∀ j, j < k + 1 → ∀ (h0 : j < ns.length) (h1 : j < vs.length) (h2 : j < qs.length) (h3 : j < bs.length), OKs ns[j] vs[j] qs[j] bs[j]) := by
      intro h j hj a0 a1 a2 a3
      rcases Nat.lt_or_ge j k with hjk | hjk
      · exact HOK.out j hjk a0 a1 a2 a3
      · obtain rfl : j = k := by omega
        exact h
    clear h0 h1 h2 h3 HF
    generalize ns[k] = nm at *
    generalize vs[k] = v at *
    generalize qs[k] = q at *
    generalize bs[k] = b at *
    by_cases z0 : nm.size = 0
    · have H9 : Hid (T = false) := HFK.out (fun h => h.1 z0)
      clear HFK HTK HT
      go_wp2
      go_ret
      exact ⟨by rw [H9.out]; rfl, rfl⟩
    have z0' : ((nm.size : Int) == 0) = false := by rw [beq_eq_false_iff_ne]; omega
    go_wp2_with fail
    go_loopg [11] nm.size (fun g i wx => ∃ t : Nat, t + g = nm.size ∧ i = .int .i64 t ∧ Hid (∀ j, j < t → ∀ (h : j < nm.size), badN nm[j] = false) ∧ w = wx)
    case atStart => exact ⟨0, by omega, rfl, fun j hj => absurd hj (by omega), rfl⟩
    case round =>
      obtain ⟨t, htg, rfl, HN, rfl⟩ := hrel
      by_cases ht : t < nm.size
      · have hst := hs nm[t]
        have HBN : Hid (badN nm[t] = true → T = false) := fun h => HFK.out (fun hp => by have := hp.2.1 t ht; rw [h] at this; cases this)
        have HGN : Hid (badN nm[t] = false → ∀ j, j < t + 1 → ∀ (h : j < nm.size), badN nm[j] = false) := by
          intro h j hj a0
          rcases Nat.lt_or_ge j t with hjk | hjk
          · exact HN.out j hjk a0
          · obtain rfl : j = t := by omega
            exact h
        cases hsp : sp nm[t] with
        | true =>
          have H9 : Hid (T = false) := HBN.out (by simp [badN, hsp])
          rw [hsp] at hst
          clear HFK HTK HT HBN HGN
          go_wp2_with (first | (go_at_call 26; refine (hst _).mono ?_; rintro e w2 ⟨rfl, hw2⟩; have hw2 := hw2.symm; subst hw2))
          go_ret
          exact ⟨by rw [H9.out]; rfl, rfl⟩
        | false =>
          rw [hsp] at hst
          by_cases c1 : nm[t] = 47
          · have H9 : Hid (T = false) := HBN.out (by simp [badN, c1])
            have n1 : ((nm[t].toNat : Int) == 47) = true := tstT c1
            clear HFK HTK HT HBN HGN c1
            go_wp2_with (first | (go_at_call 26; refine (hst _).mono ?_; rintro e w2 ⟨rfl, hw2⟩; have hw2 := hw2.symm; subst hw2))
            go_ret
            exact ⟨by rw [H9.out]; rfl, rfl⟩
          have n1 : ((nm[t].toNat : Int) == 47) = false := tst c1
          by_cases c2 : nm[t] = 62
          · have H9 : Hid (T = false) := HBN.out (by simp [badN, c2])
            have n2 : ((nm[t].toNat : Int) == 62) = true := tstT c2
            clear HFK HTK HT HBN HGN c1 c2
            go_wp2_with (first | (go_at_call 26; refine (hst _).mono ?_; rintro e w2 ⟨rfl, hw2⟩; have hw2 := hw2.symm; subst hw2))
            go_ret
            exact ⟨by rw [H9.out]; rfl, rfl⟩
          have n2 : ((nm[t].toNat : Int) == 62) = false := tst c2
          by_cases c3 : nm[t] = 61
          · have H9 : Hid (T = false) := HBN.out (by simp [badN, c3])
            have n3 : ((nm[t].toNat : Int) == 61) = true := tstT c3
            clear HFK HTK HT HBN HGN c1 c2 c3
            go_wp2_with (first | (go_at_call 26; refine (hst _).mono ?_; rintro e w2 ⟨rfl, hw2⟩; have hw2 := hw2.symm; subst hw2))
            go_ret
            exact ⟨by rw [H9.out]; rfl, rfl⟩
          have n3 : ((nm[t].toNat : Int) == 61) = false := tst c3
          have H9 : Hid (∀ j, j < t + 1 → ∀ (h : j < nm.size), badN nm[j] = false) := HGN.out (by simp [badN, hsp, c1, c2, c3])
          clear HBN HGN c1 c2 c3
          go_wp2_with (first | (go_at_call 26; refine (hst _).mono ?_; rintro e w2 ⟨rfl, hw2⟩; have hw2 := hw2.symm; subst hw2))
          go_roundg (gk - 1)
          case measure => omega
          case rel => exact ⟨t + 1, by omega, by go_num, H9, rfl⟩
      · obtain rfl : t = nm.size := by omega
        have HN2 : Hid (∀ j (h : j < nm.size), badN nm[j] = false) := fun j h => HN.out j h h
        clear HN
        cases b with
        | true =>
          have H9 := HTK.out ⟨z0, HN2.out, fun h => by cases h⟩
          have H10 : Hid (∀ j, j < k + 1 → ∀ (h0 : j < ns.length) (h1 : j < vs.length) (h2 : j < qs.length) (h3 : j < bs.length), OKs ns[j] vs[j] qs[j] bs[j]) := H9
          clear H9 HTK HFK
          go_wp2
          go_roundg (ns.length - (k + 1))
          case measure => omega
          case rel => exact ⟨k + 1, by omega, by go_num, H10, rfl⟩
        | false =>
          by_cases hqq : q = 34 ∨ q = 39
          · have HQQ : Hid (q = 34 ∨ q = 39) := hqq
            rcases hqq with hq1 | hq1
            rotate_left
            have hn0 : ((q.toNat : Int) == 34) = false := by rw [hq1]; rfl
            have hn1 : ((q.toNat : Int) == 39) = true := tstT hq1
            rotate_left
            have hn0 : ((q.toNat : Int) == 34) = true := tstT hq1
            have hn1 : ((q.toNat : Int) == 39) = false := by rw [hq1]; rfl
            all_goals
              clear hq1
              go_wp2_with fail
              go_loopg [15] v.size (fun g i wx => ∃ t : Nat, t + g = v.size ∧ i = .int .i64 t ∧ Hid (∀ j, j < t → ∀ (h : j < v.size), v[j] ≠ q) ∧ w = wx)
              case atStart => exact ⟨0, by omega, rfl, fun j hj => absurd hj (by omega), rfl⟩
              case round =>
                obtain ⟨t, htg, rfl, HV, rfl⟩ := hrel
                by_cases ht : t < v.size
                · by_cases c1 : v[t] = q
                  · have H9 : Hid (T = false) := HFK.out (fun hp => by
                      rcases hp.2.2 rfl with ⟨_, h⟩ | ⟨h, _⟩
                      · exact h t ht c1
                      · rcases HQQ.out with h' | h' <;> rw [h'] at h <;> exact absurd h (by decide))
                    have n1 : ((v[t].toNat : Int) == (q.toNat : Int)) = true := tstT c1
                    clear HFK HTK HT c1
                    go_wp2
                    go_ret
                    exact ⟨by rw [H9.out]; rfl, rfl⟩
                  · have H9 : Hid (∀ j, j < t + 1 → ∀ (h : j < v.size), v[j] ≠ q) := by
                      intro j hj a0
                      rcases Nat.lt_or_ge j t with hjk | hjk
                      · exact HV.out j hjk a0
                      · obtain rfl : j = t := by omega
                        exact c1
                    have n1 : ((v[t].toNat : Int) == (q.toNat : Int)) = false := tst c1
                    clear c1
                    go_wp2
                    go_roundg (gk - 1)
                    case measure => omega
                    case rel => exact ⟨t + 1, by omega, by go_num, H9, rfl⟩
                · have H10 : Hid (∀ j, j < k + 1 → ∀ (h0 : j < ns.length) (h1 : j < vs.length) (h2 : j < qs.length) (h3 : j < bs.length), OKs ns[j] vs[j] qs[j] bs[j]) := HTK.out ⟨z0, HN2.out, fun _ => .inl ⟨HQQ.out, fun t h => HV.out t (by omega) h⟩⟩
                  clear HTK HFK
                  go_wp2
                  go_roundg (ns.length - (k + 1))
                  case measure => omega
                  case rel => exact ⟨k + 1, by omega, by go_num, H10, rfl⟩
          · have HQQ : Hid (¬ (q = 34 ∨ q = 39)) := hqq
            have hn0 : ((q.toNat : Int) == 34) = false := tst (fun h => hqq (.inl h))
            have hn1 : ((q.toNat : Int) == 39) = false := tst (fun h => hqq (.inr h))
            clear hqq
            by_cases hq0 : q = 0
            case neg =>
              have H9 : Hid (T = false) := HFK.out (fun hp => by
                rcases hp.2.2 rfl with ⟨h, _⟩ | ⟨h, _⟩
                · exact HQQ.out h
                · exact hq0 h)
              have n1 : ((q.toNat : Int) != 0) = true := by have := u8_ne q 0; simpa [hq0] using this
              clear HFK HTK HT hq0
              go_wp2
              go_ret
              exact ⟨by rw [H9.out]; rfl, rfl⟩
            have n1 : ((q.toNat : Int) != 0) = false := by rw [hq0]; rfl
            have HQ0 : Hid (q = 0) := hq0
            clear hq0
            have HBV : Hid (∀ (P : Prop), (∀ h : 0 < v.size, v[0] ≠ 34 ∧ v[0] ≠ 39 → (∀ t (h : t < v.size), badV v[t] = false) → P) → ¬ P → T = false) := by
              intro P h1 h2
              refine HFK.out (fun hp => ?_)
              rcases hp.2.2 rfl with ⟨h, _⟩ | ⟨_, ⟨ha, hb⟩, hc⟩
              · exact HQQ.out h
              · exact h2 (h1 ha hb hc)
            by_cases zv : v.size = 0
            · have H9 : Hid (T = false) := HBV.out (¬ v.size = 0) (fun h _ _ => by omega) (fun h => h zv)
              clear HFK HTK HT HBV
              go_wp2
              go_ret
              exact ⟨by rw [H9.out]; rfl, rfl⟩
            have zv' : ((v.size : Int) == 0) = false := by rw [beq_eq_false_iff_ne]; omega
            have zp : 0 < v.size := by omega
            by_cases f1 : v[0] = 34
            · have H9 : Hid (T = false) := HBV.out (¬ v[0] = 34) (fun h h' _ => h'.1) (fun h => h f1)
              have n2 : ((v[0].toNat : Int) == 34) = true := tstT f1
              clear HFK HTK HT HBV f1
              go_wp2
              go_ret
              exact ⟨by rw [H9.out]; rfl, rfl⟩
            have n2 : ((v[0].toNat : Int) == 34) = false := tst f1
            by_cases f2 : v[0] = 39
            · have H9 : Hid (T = false) := HBV.out (¬ v[0] = 39) (fun h h' _ => h'.2) (fun h => h f2)
              have n3 : ((v[0].toNat : Int) == 39) = true := tstT f2
              clear HFK HTK HT HBV f1 f2
              go_wp2
              go_ret
              exact ⟨by rw [H9.out]; rfl, rfl⟩
            have n3 : ((v[0].toNat : Int) == 39) = false := tst f2
            have HV0 : Hid (∃ h : 0 < v.size, v[0] ≠ 34 ∧ v[0] ≠ 39) := ⟨zp, f1, f2⟩
            clear f1 f2
            go_wp2_with fail
            go_loopg [16] v.size (fun g i wx => ∃ t : Nat, t + g = v.size ∧ i = .int .i64 t ∧ Hid (∀ j, j < t → ∀ (h : j < v.size), badV v[j] = false) ∧ w = wx)
            case atStart => exact ⟨0, by omega, rfl, fun j hj => absurd hj (by omega), rfl⟩
            case round =>
              obtain ⟨t, htg, rfl, HV, rfl⟩ := hrel
              by_cases ht : t < v.size
              · have hst := hs v[t]
                cases hsp : sp v[t] with
                | true =>
                  have H9 : Hid (T = false) := HBV.out (badV v[t] = false) (fun _ _ h => h t ht) (by simp [badV, hsp])
                  rw [hsp] at hst
                  clear HFK HTK HT HBV
                  go_wp2_with (first | (go_at_call 26; refine (hst _).mono ?_; rintro e w2 ⟨rfl, hw2⟩; have hw2 := hw2.symm; subst hw2))
                  go_ret
                  exact ⟨by rw [H9.out]; rfl, rfl⟩
                | false =>
                  rw [hsp] at hst
                  by_cases c1 : v[t] = 62
                  · have H9 : Hid (T = false) := HBV.out (badV v[t] = false) (fun _ _ h => h t ht) (by simp [badV, c1])
                    have m1 : ((v[t].toNat : Int) == 62) = true := tstT c1
                    clear HFK HTK HT HBV c1
                    go_wp2_with (first | (go_at_call 26; refine (hst _).mono ?_; rintro e w2 ⟨rfl, hw2⟩; have hw2 := hw2.symm; subst hw2))
                    go_ret
                    exact ⟨by rw [H9.out]; rfl, rfl⟩
                  · have m1 : ((v[t].toNat : Int) == 62) = false := tst c1
                    have H9 : Hid (∀ j, j < t + 1 → ∀ (h : j < v.size), badV v[j] = false) := by
                      intro j hj a0
                      rcases Nat.lt_or_ge j t with hjk | hjk
                      · exact HV.out j hjk a0
                      · obtain rfl : j = t := by omega
                        simp [badV, hsp, c1]
                    clear c1
                    go_wp2_with (first | (go_at_call 26; refine (hst _).mono ?_; rintro e w2 ⟨rfl, hw2⟩; have hw2 := hw2.symm; subst hw2))
                    go_roundg (gk - 1)
                    case measure => omega
                    case rel => exact ⟨t + 1, by omega, by go_num, H9, rfl⟩
              · have H10 : Hid (∀ j, j < k + 1 → ∀ (h0 : j < ns.length) (h1 : j < vs.length) (h2 : j < qs.length) (h3 : j < bs.length), OKs ns[j] vs[j] qs[j] bs[j]) := HTK.out ⟨z0, HN2.out, fun _ => .inr ⟨HQ0.out, HV0.out, fun t h => HV.out t (by omega) h⟩⟩
                clear HTK HFK
                go_wp2
                go_roundg (ns.length - (k + 1))
                case measure => omega
                case rel => exact ⟨k + 1, by omega, by go_num, H10, rfl⟩
end Go.Proofs.Qxb6000880a
