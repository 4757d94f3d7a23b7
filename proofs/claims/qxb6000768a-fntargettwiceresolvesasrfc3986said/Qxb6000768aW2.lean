import Derived.Test.Qxb6000768aW1
import Derived.Test.Qxb6000768aL1
import Derived.Deep.Draws
set_option linter.unusedSimpArgs false
set_option linter.unusedVariables false
namespace Go.Proofs.Qxb6000768a
open Go.RowKit

theorem ret_bool {a b : Bool} (h : a = b) : Ending.returned (.bool a) = .returned (.bool b) := by rw [h]
theorem ret_int {k : IntKind} {a b : Int} (h : a = b) : Ending.returned (.int k a) = .returned (.int k b) := by rw [h]
theorem ret_str {a b : ByteArray} (h : a = b) : Ending.returned (.string a) = .returned (.string b) := by rw [h]

theorem bget (s : ByteArray) (j : Nat) : s[j]? = s.data.toList[j]? := by
  rcases Nat.lt_or_ge j s.size with h | h
  · rw [ByteArray.getElem?_lt' s j h, List.getElem?_eq_getElem (by simpa using h)]
    rfl
  · rw [ByteArray.getElem?_ge' s j (by omega), List.getElem?_eq_none (by simpa using h)]
theorem blen (s : ByteArray) : s.data.toList.length = s.size := Array.length_toList

theorem prefix_yes (s p : ByteArray) (k : Nat) (hk : k = p.size) (h : ∀ j, j < k → s[j]? = p[j]?) : List.isPrefixOf p.data.toList s.data.toList = true := by
  rw [List.isPrefixOf_iff_prefix, List.prefix_iff_getElem?]
  intro i hi
  rw [← bget, h i (by simpa [hk] using hi), bget, List.getElem?_eq_getElem hi]
theorem prefix_no (s p : ByteArray) (k : Nat) (hp : k < p.size) (hs : k < s.size) (h : s[k] ≠ p[k]) : List.isPrefixOf p.data.toList s.data.toList = false := by
  rw [Bool.eq_false_iff]
  intro hh
  rw [List.isPrefixOf_iff_prefix, List.prefix_iff_getElem?] at hh
  have := hh k (by simpa using hp)
  rw [← bget, ByteArray.getElem?_lt' s k hs] at this
  exact h (Option.some.inj this)
theorem prefix_short (s p : ByteArray) (h : s.size < p.size) : List.isPrefixOf p.data.toList s.data.toList = false := by
  rw [Bool.eq_false_iff]
  intro hh
  rw [List.isPrefixOf_iff_prefix] at hh
  have := hh.length_le
  rw [blen, blen] at this; omega

theorem zzHasPrefix_any (s p : ByteArray) (w : World) (hs : s.size ≤ 100000000) (hp : p.size ≤ 100000000) :
    Calls Try.prog 21 #[.string s, .string p] w fun e w' => e = .returned (.bool (List.isPrefixOf p.data.toList s.data.toList)) ∧ ∃ n, w' = w.drewN n := by
  by_cases hlt : s.size < p.size
  · go_enter Try.func21, Try.ntmps21
    go_wp2
    go_ret
    exact ⟨ret_bool (prefix_short s p hlt).symm, 0, rfl⟩
  · go_enter Try.func21, Try.ntmps21
    go_wp2
    go_loopw [5] (fun i wr => ∃ k : Nat, k ≤ p.size ∧ i = .int .i64 k ∧ (∀ j, j < k → s[j]? = p[j]?) ∧ ∃ n, wr = w.drewN n) (fun i _ => p.size - (intOf i).toNat)
    case atStart => exact ⟨0, Nat.zero_le _, rfl, fun j hj => absurd hj (by omega), 0, rfl⟩
    case round =>
      obtain ⟨k, hk, rfl, hpre, n, rfl⟩ := hrel
      have HP : Hid (∀ j, j < k → s[j]? = p[j]?) := hpre
      clear hpre
      by_cases hkp : k < p.size
      · have hks : k < s.size := by omega
        by_cases heq : s[k] = p[k]
        · have hb : ((s[k].toNat : Int) != (p[k].toNat : Int)) = false := by rw [heq]; simp
          have HE : Hid (s[k] = p[k]) := heq
          clear heq
          go_wp2
          go_region
          all_goals go_wp2
          all_goals go_roundw
          case rel =>
            refine ⟨k + 1, by omega, by go_num, ?_, n + 1, rfl⟩
            intro j hj
            by_cases hjk : j < k
            · exact HP.out j hjk
            · obtain rfl : j = k := by omega
              rw [ByteArray.getElem?_lt' s j hks, ByteArray.getElem?_lt' p j hkp, HE.out]
          case measure => simp [intOf]; omega
        · have hb : ((s[k].toNat : Int) != (p[k].toNat : Int)) = true := by
            rw [bne_iff_ne]; intro e; exact heq (UInt8.toNat_inj.1 (by omega))
          go_wp2
          go_region
          all_goals go_wp2
          all_goals go_ret
          exact ⟨ret_bool (prefix_no s p k hkp hks heq).symm, n + 1, rfl⟩
      · go_wp2
        go_ret
        exact ⟨ret_bool (prefix_yes s p k (by omega) HP.out).symm, n, rfl⟩
end Go.Proofs.Qxb6000768a
