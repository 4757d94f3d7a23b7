import Derived.Test.Qxb6000995aW1
set_option linter.unusedSimpArgs false
set_option linter.unusedVariables false
namespace Go.Proofs.Qxb6000995a
open Go.RowKit

theorem u8_ne (c d : UInt8) : ((c.toNat : Int) != (d.toNat : Int)) = !(decide (c = d)) := by
  by_cases h : c = d
  · simp [h]
  · have : (c.toNat : Int) ≠ d.toNat := fun e => h (UInt8.toNat_inj.1 (by omega))
    simp [h, bne_iff_ne, this]

theorem equalFold_any (a b : ByteArray) (ha : a.size ≤ 100000000) (hb : b.size ≤ 100000000) (w : World) :
    Calls Try.prog 28 #[.string a, .string b] w fun e w' => e = .returned (.bool (decide (a.data.toList.map lowB = b.data.toList.map lowB))) ∧ ∃ n, w' = w.drewN n := by
  by_cases hz : a.size = b.size
  · have HV : Hid ((∀ j, j < a.size → (a.data.toList[j]?).map lowB = (b.data.toList[j]?).map lowB) → a.data.toList.map lowB = b.data.toList.map lowB) := by
      intro h
      apply List.ext_getElem?
      intro j
      rw [List.getElem?_map, List.getElem?_map]
      rcases Nat.lt_or_ge j a.size with hj | hj
      · exact h j hj
      · rw [List.getElem?_eq_none (by rw [blen]; exact hj), List.getElem?_eq_none (by rw [blen, ← hz]; exact hj)]
    have HW : Hid (∀ j, j < a.size → (a.data.toList[j]?).map lowB ≠ (b.data.toList[j]?).map lowB → ¬ a.data.toList.map lowB = b.data.toList.map lowB) := by
      intro j hj hne e
      apply hne
      have := congrArg (fun l => l[j]?) e
      simpa [List.getElem?_map] using this
    generalize hT : decide (a.data.toList.map lowB = b.data.toList.map lowB) = T at *
    have HT : Hid (decide (a.data.toList.map lowB = b.data.toList.map lowB) = T) := hT
    clear hT
    have hz' : (a.size : Int) = (b.size : Int) := by omega
    go_enter Try.func28, Try.ntmps28
    go_wp2
    go_loopg [5, 13] a.size (fun g _ i wx => ∃ k : Nat, k + g = a.size ∧ i = .int .i64 k ∧ (∃ n, wx = w.drewN n) ∧ ∀ j, j < k → (a.data.toList[j]?).map lowB = (b.data.toList[j]?).map lowB)
    case atStart => exact ⟨0, by omega, rfl, ⟨0, rfl⟩, fun j h => absurd h (by omega)⟩
    case round =>
      obtain ⟨k, hkg, rfl, ⟨n, rfl⟩, hn⟩ := hrel
      have HN : Hid (∀ j, j < k → (a.data.toList[j]?).map lowB = (b.data.toList[j]?).map lowB) := hn
      clear hn
      by_cases hlt : k < a.size
      · have hltb : k < b.size := by omega
        by_cases he : lowB a[k] = lowB b[k]
        · have n1 : (((lowB a[k]).toNat : Int) != ((lowB b[k]).toNat : Int)) = false := by rw [u8_ne]; simp [he]
          have HE : Hid ((a.data.toList[k]?).map lowB = (b.data.toList[k]?).map lowB) := by show _ = _; rw [lget a k hlt, lget b k hltb]; simp [he]
          clear he
          go_upto_region 6 with fail
          go_quiet ((go_at_call 30; exact (lowerASCII_any _ _).mono (fun _ _ h => ⟨h.1, _, h.2⟩)))
          go_wp2
          go_roundg (gk - 1)
          case measure => omega
          case rel =>
            refine ⟨k + 1, by omega, by go_num, ⟨_, rfl⟩, ?_⟩
            intro j hj
            by_cases hjk : j < k
            · exact HN.out j hjk
            · obtain rfl : j = k := by omega
              exact HE.out
        · have n1 : (((lowB a[k]).toNat : Int) != ((lowB b[k]).toNat : Int)) = true := by rw [u8_ne]; simp [he]
          have HF : Hid (T = false) := by
            show _ = _
            rw [← HT.out, decide_eq_false_iff_not]
            refine HW.out k hlt ?_
            rw [lget a k hlt, lget b k hltb]; simpa using he
          clear he
          go_upto_region 6 with fail
          go_quiet ((go_at_call 30; exact (lowerASCII_any _ _).mono (fun _ _ h => ⟨h.1, _, h.2⟩)))
          go_wp2
          go_ret
          exact ⟨by rw [HF.out]; rfl, n + nq, by simp⟩
      · have HF : Hid (T = true) := by
          show _ = _
          rw [← HT.out, decide_eq_true_eq]
          exact HV.out (fun j hj => HN.out j (by omega))
        go_wp2
        go_ret
        exact ⟨by rw [HF.out]; rfl, n, rfl⟩
  · have HF : Hid (decide (a.data.toList.map lowB = b.data.toList.map lowB) = false) := by
      show _ = _
      rw [decide_eq_false_iff_not]
      intro e
      have := congrArg List.length e
      simp [blen] at this
      exact hz this
    have hz' : ¬ (a.size : Int) = (b.size : Int) := by omega
    go_enter Try.func28, Try.ntmps28
    go_wp2
    go_ret
    exact ⟨by rw [HF.out]; rfl, 0, rfl⟩
end Go.Proofs.Qxb6000995a
