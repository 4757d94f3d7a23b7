import Derived.Test.Qxb6000768aL5
import Derived.Test.Qxb6000768aX2
import Derived.Deep.CutBlock
set_option linter.unusedSimpArgs false
set_option linter.unusedVariables false
namespace Go.Proofs.Qxb6000768a
open Go.RowKit

theorem nb_no {c d : UInt8} (h : c ≠ d) (m : Int) (hm : m = d.toNat) : ((c.toNat : Int) != m) = true := by
  rw [bne_iff_ne]; intro e; apply h; apply UInt8.toNat_inj.1; omega
theorem nb_yes {c d : UInt8} (h : c = d) (m : Int) (hm : m = d.toNat) : ((c.toNat : Int) != m) = false := by
  rw [h, hm]; simp

set_option maxRecDepth 100000 in
set_option maxHeartbeats 1000000 in
theorem zzDotFree_any (s : ByteArray) (hs : s.size ≤ 100000000) (hd : DF s.data.toList) (w : World) :
    Calls Try.prog 15 #[.string s] w fun e w' => e = .returned (.bool true) ∧ w' = w := by
  have HD : Hid (∀ i j : Nat, i ≤ j → j ≤ s.size → (i = 0 ∨ s.data.toList[i - 1]? = some 47) → (j = s.size ∨ s.data.toList[j]? = some 47) → (∀ k, i ≤ k → k < j → s.data.toList[k]? ≠ some 47) → ((s.extract i j).toList == [46]) = false ∧ ((s.extract i j).toList == [46, 46]) = false) := fun i j a b c d e => hd.at i j a b c d e
  clear hd
  go_enter Try.func15, Try.ntmps15
  go_upto_block 0 with fail
  go_wp2_with fail
  go_loopg [3, 4, 5] (s.size + 2) (fun g i _ _ wx => ∃ k : Nat, k + g = s.size + 2 ∧ i = .int .i64 k ∧ w = wx ∧ (k = 0 ∨ k = s.size + 1 ∨ s.data.toList[k - 1]? = some 47))
  case atStart => exact ⟨0, by omega, rfl, rfl, .inl rfl⟩
  case round =>
    obtain ⟨k, hkg, rfl, rfl, hk⟩ := hrel
    have HK : Hid (k = 0 ∨ k = s.size + 1 ∨ s.data.toList[k - 1]? = some 47) := hk
    clear hk
    by_cases hle : k ≤ s.size
    · go_upto_block 2 with fail
      go_cut [4] (fun i wx => ∃ j : Nat, i = .int .i64 j ∧ w = wx ∧ k ≤ j ∧ j ≤ s.size ∧ Hid ((j = s.size ∨ s.data.toList[j]? = some 47) ∧ (∀ m, k ≤ m → m < j → s.data.toList[m]? ≠ some 47)))
      case first =>
        go_wp2_with fail
        go_loopg [4] s.size (fun g i wx => ∃ j : Nat, j + g = s.size + k ∧ k ≤ j ∧ j ≤ s.size ∧ i = .int .i64 j ∧ w = wx ∧ (∀ m, k ≤ m → m < j → s.data.toList[m]? ≠ some 47))
        case atStart => exact ⟨k, by omega, by omega, hle, rfl, rfl, fun m h1 h2 => absurd h1 (by omega)⟩
        case round =>
          obtain ⟨j, hjg, hkj, hjs, rfl, rfl, hn⟩ := hrel
          have HN : Hid (∀ m, k ≤ m → m < j → s.data.toList[m]? ≠ some 47) := hn
          clear hn
          by_cases hlt : j < s.size
          · by_cases h47 : s[j] = 47
            · have n1 := nb_yes h47 47 rfl
              have HF : Hid (s.data.toList[j]? = some 47) := by show _ = _; rw [lget s j hlt, h47]
              clear h47
              go_wp2
              go_meet
              exact ⟨j, rfl, rfl, hkj, hjs, .inr HF.out, HN.out⟩
            · have n1 := nb_no (c := s[j]) (d := 47) h47 47 rfl
              have HF : Hid (s.data.toList[j]? ≠ some 47) := by show _ ≠ _; rw [lget s j hlt]; simpa using h47
              clear h47
              go_wp2
              go_roundg (gk - 1)
              case measure => omega
              case rel =>
                refine ⟨j + 1, by omega, by omega, by omega, by go_num, rfl, ?_⟩
                intro m h1 h2
                by_cases hm : m < j
                · exact HN.out m h1 hm
                · obtain rfl : m = j := by omega
                  exact HF.out
          · have hj : j = s.size := by omega
            go_wp2
            go_meet
            exact ⟨j, rfl, rfl, hkj, hjs, .inl hj, HN.out⟩
      case rest =>
        obtain ⟨j, rfl, rfl, hkj, hjs, HJ⟩ := hcut
        have hki : k = 0 ∨ s.data.toList[k - 1]? = some 47 := by
          rcases HK.out with h | h | h
          · exact .inl h
          · omega
          · exact .inr h
        obtain ⟨n1, n2⟩ := HD.out k j hkj hjs hki HJ.out.1 HJ.out.2
        clear hki
        go_wp2
        go_roundg (s.size + 2 - (j + 1))
        case measure => omega
        case rel =>
          refine ⟨j + 1, by omega, by go_num, rfl, ?_⟩
          rcases HJ.out.1 with h | h
          · exact .inr (.inl (by omega))
          · exact .inr (.inr (by simpa using h))
    · go_wp2
      go_ret
      exact ⟨rfl, rfl⟩
end Go.Proofs.Qxb6000768a
