import Derived.Test.Qxb6000995aW4
set_option linter.unusedSimpArgs false
set_option linter.unusedVariables false
namespace Go.Proofs.Qxb6000995a
open Go.RowKit

theorem below_drewN {B : Nat} {a w : World} (h : Below B a w) (n : Nat) : Below B a (w.drewN n) := ⟨h.os, h.tape, h.output, h.size, h.block⟩

set_option maxHeartbeats 1000000 in
theorem walk6 (a0 : ByteArray) (w0 : a0.size ≤ maxLen) (w : World) :
    Calls Try.prog 6 #[.string a0] w fun e w' => e = .returned (.bool true) ∧ Below w.heap.size w w' := by
  have hz := fun w => zzBytes18_any a0 w0 w
  unfold maxLen at w0
  by_cases hs : a0.size ≤ 1048576
  · rw [decide_eq_true hs] at hz
    by_cases g0 : a0.size ≤ 65536
    · have hm := fun w => zzMeta_any a0 (by omega) w
      have hc := fun w => countByte_any a0 (by omega) w
      have hf := fun w => firstIndex_any a0 (by omega) w
      have hmp := fun w => mapLower_any (a0.extract 0 8) (by simp [ByteArray.size_extract]; omega) w
      rw [ext_take] at hmp
      have hw := want_eq a0.data.toList
      have hlen := blen a0
      have hbase : metaOK a0.data.toList = false → metaBase a0.data.toList = [] := fun h => by unfold metaBase; rw [h]; rfl
      have hnil : ((S []).toList == []) = true := by rw [ByteArray.toList_eq]; rfl
      have hnil2 : (S []).toList.isEmpty = true := by rw [ByteArray.toList_eq]; rfl
      by_cases c1 : a0.data.toList.count 47 = 1
      · rw [c1] at hc
        by_cases c2 : fstS a0.data.toList = 8
        · rw [c2] at hf
          have h8 : 8 < a0.size := by
            have h := c2
            unfold fstS at h
            split at h <;> omega
          by_cases c3 : (a0.data.toList.take 8).map lowB = mi
          · rw [decide_eq_true c1, decide_eq_true c2, decide_eq_true c3] at hw
            have hb : metaBase a0.data.toList = a0.data.toList.drop 9 := by unfold metaBase; rw [hw]; rfl
            rw [hw, hb] at hm
            have n4 : ((S (a0.data.toList.drop 9)).toList == (a0.extract 9 a0.size).toList) = true := by rw [ByteArray.toList_eq, ByteArray.toList_eq, S_data, ext_list]; simp
            rw [c3] at hmp
            have n3 : ((S mi).toList == [109, 101, 116, 97, 45, 105, 110, 102]) = true := by rw [ByteArray.toList_eq, S_data]; rfl
            clear hbase hb hw c1 c2 c3
            generalize a0.data.toList.drop 9 = D at *
            generalize S mi = M at *
            go_enter Try.func6, Try.ntmps6
            go_wp2_with (first | (go_at_call 18; refine (hz _).mono ?_; rintro e w1 ⟨rfl, hw1⟩; have hw1 := hw1.symm; subst hw1) | (go_at_call 17; refine (hm _).mono ?_; rintro e w2 ⟨rfl, n2, rfl⟩) | (go_at_call 19; refine (hc _).mono ?_; rintro e w3 ⟨rfl, hw3⟩; have hw3 := hw3.symm; subst hw3) | (go_at_call 20; refine (hf _).mono ?_; rintro e w4 ⟨rfl, hw4⟩; have hw4 := hw4.symm; subst hw4) | (go_at_call 11; refine (hmp _).mono ?_; rintro e w5 ⟨rfl, hb5⟩))
            go_ret
            exact ⟨rfl, (below_drewN (Below.refl _ _) n2).trans hb5⟩
          · rw [decide_eq_true c1, decide_eq_true c2, decide_eq_false c3] at hw
            rw [hbase hw, hw] at hm
            have n3 : ((S ((a0.data.toList.take 8).map lowB)).toList == [109, 101, 116, 97, 45, 105, 110, 102]) = false := by
              rw [ByteArray.toList_eq, S_data]
              exact beq_eq_false_iff_ne.2 c3
            clear hbase hw c1 c2 c3
            generalize S ((a0.data.toList.take 8).map lowB) = M at *
            go_enter Try.func6, Try.ntmps6
            go_wp2_with (first | (go_at_call 18; refine (hz _).mono ?_; rintro e w1 ⟨rfl, hw1⟩; have hw1 := hw1.symm; subst hw1) | (go_at_call 17; refine (hm _).mono ?_; rintro e w2 ⟨rfl, n2, rfl⟩) | (go_at_call 19; refine (hc _).mono ?_; rintro e w3 ⟨rfl, hw3⟩; have hw3 := hw3.symm; subst hw3) | (go_at_call 20; refine (hf _).mono ?_; rintro e w4 ⟨rfl, hw4⟩; have hw4 := hw4.symm; subst hw4) | (go_at_call 11; refine (hmp _).mono ?_; rintro e w5 ⟨rfl, hb5⟩))
            go_ret
            exact ⟨rfl, (below_drewN (Below.refl _ _) n2).trans hb5⟩
        · rw [decide_eq_true c1, decide_eq_false c2] at hw
          rw [hbase hw, hw] at hm
          have n2 : (fstS a0.data.toList == 8) = false := beq_eq_false_iff_ne.2 c2
          clear hbase hw c1 c2 hmp
          generalize fstS a0.data.toList = F at *
          go_enter Try.func6, Try.ntmps6
          go_wp2_with (first | (go_at_call 18; refine (hz _).mono ?_; rintro e w1 ⟨rfl, hw1⟩; have hw1 := hw1.symm; subst hw1) | (go_at_call 17; refine (hm _).mono ?_; rintro e w2 ⟨rfl, n2, rfl⟩) | (go_at_call 19; refine (hc _).mono ?_; rintro e w3 ⟨rfl, hw3⟩; have hw3 := hw3.symm; subst hw3) | (go_at_call 20; refine (hf _).mono ?_; rintro e w4 ⟨rfl, hw4⟩; have hw4 := hw4.symm; subst hw4))
          go_ret
          exact ⟨rfl, below_drewN (Below.refl _ _) _⟩
      · rw [decide_eq_false c1] at hw
        rw [hbase hw, hw] at hm
        have n1 : (((a0.data.toList.count 47 : Nat) : Int) == 1) = false := by rw [beq_eq_false_iff_ne]; omega
        clear hbase hw c1 hmp hf
        generalize a0.data.toList.count 47 = F at *
        go_enter Try.func6, Try.ntmps6
        go_wp2_with (first | (go_at_call 18; refine (hz _).mono ?_; rintro e w1 ⟨rfl, hw1⟩; have hw1 := hw1.symm; subst hw1) | (go_at_call 17; refine (hm _).mono ?_; rintro e w2 ⟨rfl, n2, rfl⟩) | (go_at_call 19; refine (hc _).mono ?_; rintro e w3 ⟨rfl, hw3⟩; have hw3 := hw3.symm; subst hw3))
        go_ret
        exact ⟨rfl, below_drewN (Below.refl _ _) _⟩
    · go_enter Try.func6, Try.ntmps6
      go_wp2_with (first | (go_at_call 18; refine (hz _).mono ?_; rintro e w1 ⟨rfl, hw1⟩; have hw1 := hw1.symm; subst hw1))
      go_ret
      exact ⟨rfl, Below.refl _ _⟩
  · rw [decide_eq_false hs] at hz
    go_enter Try.func6, Try.ntmps6
    go_wp2_with (first | (go_at_call 18; refine (hz _).mono ?_; rintro e w1 ⟨rfl, hw1⟩; have hw1 := hw1.symm; subst hw1))
    go_ret
    exact ⟨rfl, Below.refl _ _⟩
end Go.Proofs.Qxb6000995a
