import Derived.Test.Qxb6000995aProg
import Derived.Test.Qxb6000995aShelf
import Derived.Test.Qxb6000995aK
import Derived.WalkKit
import Derived.Deep.Draws
import Derived.Deep.DeepCutAuto
import Derived.Lib.IndexBytes
set_option linter.unusedSimpArgs false
set_option linter.unusedVariables false
namespace Go.Proofs.Qxb6000995a
open Go.RowKit

abbrev Bs := List UInt8
theorem blen (s : ByteArray) : s.data.toList.length = s.size := Array.length_toList
theorem bget (s : ByteArray) (k : Nat) : s[k]? = s.data.toList[k]? := by
  rw [Array.getElem?_toList]; rfl
theorem lget (r : ByteArray) (k : Nat) (h : k < r.size) : r.data.toList[k]? = some r[k] := by rw [← bget, ByteArray.getElem?_lt' r k h]
theorem bt : ByteT Try.prog 30 5 := ⟨Try.underlying30, Try.underlying5, info_parts (show (Try.prog.info? 5).map (fun i => (i.zero, i.size, i.bytes)) = some (some (.int .u8 0), 1, 1) from by kernel_rfl)⟩

/-- an ASCII letter in lower case -/
def lowB (c : UInt8) : UInt8 := if 65 ≤ c.toNat ∧ c.toNat ≤ 90 then UInt8.ofNat (c.toNat + 32) else c
theorem lowB_up {c : UInt8} (h : 65 ≤ c.toNat ∧ c.toNat ≤ 90) : (lowB c).toNat = c.toNat + 32 := by
  unfold lowB; rw [if_pos h]; simp; omega
theorem lowB_no {c : UInt8} (h : ¬ (65 ≤ c.toNat ∧ c.toNat ≤ 90)) : lowB c = c := by
  unfold lowB; rw [if_neg h]

theorem lowerB_any (c : UInt8) (w : World) : Calls Try.prog 25 #[.int .u8 (c.toNat : Int)] w fun e w' => e = .returned (.int .u8 ((lowB c).toNat : Int)) ∧ w' = w := by
  have hc := c.toNat_lt
  by_cases h1 : 65 ≤ c.toNat
  · by_cases h2 : c.toNat ≤ 90
    · have H : Hid ((lowB c).toNat = c.toNat + 32) := lowB_up ⟨h1, h2⟩
      have i1 : (65 : Int) ≤ (c.toNat : Int) := by omega
      have i2 : (c.toNat : Int) ≤ 90 := by omega
      go_enter Try.func25, Try.ntmps25
      go_wp2
      go_ret
      exact ⟨by rw [H.out]; rfl, rfl⟩
    · have H : Hid (lowB c = c) := lowB_no (fun h => h2 h.2)
      have i1 : (65 : Int) ≤ (c.toNat : Int) := by omega
      have i2 : ¬ (c.toNat : Int) ≤ 90 := by omega
      go_enter Try.func25, Try.ntmps25
      go_wp2
      go_ret
      exact ⟨by rw [H.out]; rfl, rfl⟩
  · have H : Hid (lowB c = c) := lowB_no (fun h => h1 h.1)
    have i1 : ¬ (65 : Int) ≤ (c.toNat : Int) := by omega
    go_enter Try.func25, Try.ntmps25
    go_wp2
    go_ret
    exact ⟨by rw [H.out]; rfl, rfl⟩
theorem lowerASCII_any (c : UInt8) (w : World) : Calls Try.prog 30 #[.int .u8 (c.toNat : Int)] w fun e w' => e = .returned (.int .u8 ((lowB c).toNat : Int)) ∧ w' = w := by
  have hc := c.toNat_lt
  by_cases h1 : 65 ≤ c.toNat
  · by_cases h2 : c.toNat ≤ 90
    · have H : Hid ((lowB c).toNat = c.toNat + 32) := lowB_up ⟨h1, h2⟩
      have i1 : (65 : Int) ≤ (c.toNat : Int) := by omega
      have i2 : (c.toNat : Int) ≤ 90 := by omega
      go_enter Try.func30, Try.ntmps30
      go_wp2
      go_ret
      exact ⟨by rw [H.out]; show Ending.returned (.int .u8 ((c.toNat : Int) + 97 - 65)) = Ending.returned (.int .u8 ((c.toNat + 32 : Nat) : Int)); rw [show (c.toNat : Int) + 97 - 65 = ((c.toNat + 32 : Nat) : Int) by omega], rfl⟩
    · have H : Hid (lowB c = c) := lowB_no (fun h => h2 h.2)
      have i1 : (65 : Int) ≤ (c.toNat : Int) := by omega
      have i2 : ¬ (c.toNat : Int) ≤ 90 := by omega
      go_enter Try.func30, Try.ntmps30
      go_wp2
      go_ret
      exact ⟨by rw [H.out]; rfl, rfl⟩
  · have H : Hid (lowB c = c) := lowB_no (fun h => h1 h.1)
    have i1 : ¬ (65 : Int) ≤ (c.toNat : Int) := by omega
    go_enter Try.func30, Try.ntmps30
    go_wp2
    go_ret
    exact ⟨by rw [H.out]; rfl, rfl⟩

theorem countByte_any (s : ByteArray) (hs : s.size ≤ 100000000) (w : World) : Calls Try.prog 19 #[.string s, .int .u8 47] w fun e w' => e = .returned (.int .i64 ((s.data.toList.count 47 : Nat) : Int)) ∧ w' = w := by
  have hlen : s.data.toList.length = s.size := blen s
  have HV : Hid (∀ k : Nat, k < s.size → ∀ c, s.data.toList[k]? = some c → (s.data.toList.take (k + 1)).count 47 = (s.data.toList.take k).count 47 + (if c = 47 then 1 else 0)) := by
    intro k hk c hc
    rw [List.take_succ_eq_append_getElem (by omega), List.count_append]
    rw [List.getElem?_eq_getElem (by omega)] at hc
    rw [Option.some.inj hc]
    simp [List.count_cons]
  have HC : Hid (∀ k : Nat, (s.data.toList.take k).count 47 ≤ s.size) := fun k => Nat.le_trans List.count_le_length (by simp; omega)
  have HT : Hid (s.data.toList.count 47 = (s.data.toList.take s.size).count 47) := by show _ = _; rw [List.take_of_length_le (by omega)]
  generalize s.data.toList.count 47 = T at *
  go_enter Try.func19, Try.ntmps19
  go_wp2
  go_loopg [5, 6] s.size (fun g n i wx => ∃ k : Nat, k + g = s.size ∧ i = .int .i64 k ∧ n = .int .i64 ((s.data.toList.take k).count 47 : Nat) ∧ w = wx)
  case atStart => exact ⟨0, by omega, rfl, by simp, rfl⟩
  case round =>
    obtain ⟨k, hkg, rfl, rfl, rfl⟩ := hrel
    have hcl := HC.out k
    by_cases hlt : k < s.size
    · have h1 := HV.out k hlt _ (lget s k hlt)
      by_cases h47 : s[k] = 47
      · have n1 : ((s[k].toNat : Int) == 47) = true := by rw [h47]; rfl
        rw [if_pos h47] at h1
        have H1 : Hid ((s.data.toList.take (k + 1)).count 47 = (s.data.toList.take k).count 47 + 1) := h1
        clear h1 h47
        generalize (s.data.toList.take k).count 47 = m at *
        go_wp2
        go_roundg (gk - 1)
        case measure => omega
        case rel => exact ⟨k + 1, by omega, by go_num, by rw [H1.out]; go_num, rfl⟩
      · have n1 : ((s[k].toNat : Int) == 47) = false := by rw [beq_eq_false_iff_ne]; intro e; apply h47; apply UInt8.toNat_inj.1; show s[k].toNat = 47; omega
        rw [if_neg h47] at h1
        have H1 : Hid ((s.data.toList.take (k + 1)).count 47 = (s.data.toList.take k).count 47) := h1
        clear h1 h47
        generalize (s.data.toList.take k).count 47 = m at *
        go_wp2
        go_roundg (gk - 1)
        case measure => omega
        case rel => exact ⟨k + 1, by omega, by go_num, by rw [H1.out], rfl⟩
    · obtain rfl : k = s.size := by omega
      go_wp2
      go_ret
      exact ⟨by rw [HT.out]; rfl, rfl⟩

theorem tw_len : ∀ (l : Bs) (m : Nat), m ≤ l.length → (∀ j, j < m → l[j]? ≠ some 47) → (m = l.length ∨ l[m]? = some 47) → (l.takeWhile (fun c => c != 47)).length = m
  | [], m, h, _, _ => by simp at h; simp [h]
  | x :: l, 0, _, _, h => by
    rcases h with h | h
    · simp at h
    · simp at h; simp [h]
  | x :: l, m + 1, h, hn, he => by
    have hx : x ≠ 47 := by have := hn 0 (by omega); simpa using this
    have := tw_len l m (by simpa using h) (fun j hj => by have := hn (j + 1) (by omega); simpa using this) (by simpa using he)
    simp [hx, this]

/-- where the first slash stands, or -1 -/
def fstS (l : Bs) : Int := if (l.takeWhile (fun c => c != 47)).length < l.length then ((l.takeWhile (fun c => c != 47)).length : Int) else -1
theorem fst_at (l : Bs) (k : Nat) (h : ∀ j, j < k → l[j]? ≠ some 47) (hk : l[k]? = some 47) : fstS l = k := by
  have hlt : k < l.length := by
    rcases Nat.lt_or_ge k l.length with h | h
    · exact h
    · rw [List.getElem?_eq_none h] at hk; simp at hk
  unfold fstS
  rw [tw_len l k (Nat.le_of_lt hlt) h (.inr hk), if_pos hlt]
theorem fst_none (l : Bs) (h : ∀ j, j < l.length → l[j]? ≠ some 47) : fstS l = -1 := by
  unfold fstS
  rw [tw_len l l.length (Nat.le_refl _) h (.inl rfl), if_neg (Nat.lt_irrefl _)]

theorem firstIndex_any (s : ByteArray) (hs : s.size ≤ 100000000) (w : World) : Calls Try.prog 20 #[.string s, .int .u8 47] w fun e w' => e = .returned (.int .i64 (fstS s.data.toList)) ∧ w' = w := by
  have hlen : s.data.toList.length = s.size := blen s
  have HV : Hid (∀ k : Nat, (∀ j, j < k → s.data.toList[j]? ≠ some 47) → s.data.toList[k]? = some 47 → fstS s.data.toList = k) := by
    intro k h1 h2
    exact fst_at _ k h1 h2
  have HW : Hid ((∀ j, j < s.size → s.data.toList[j]? ≠ some 47) → fstS s.data.toList = -1) := fun h => fst_none _ (by rw [hlen]; exact h)
  generalize fstS s.data.toList = T at *
  go_enter Try.func20, Try.ntmps20
  go_wp2
  go_loopg [5] s.size (fun g i wx => ∃ k : Nat, k + g = s.size ∧ i = .int .i64 k ∧ w = wx ∧ ∀ j, j < k → s.data.toList[j]? ≠ some 47)
  case atStart => exact ⟨0, by omega, rfl, rfl, fun j h => absurd h (by omega)⟩
  case round =>
    obtain ⟨k, hkg, rfl, rfl, hn⟩ := hrel
    have HN : Hid (∀ j, j < k → s.data.toList[j]? ≠ some 47) := hn
    clear hn
    by_cases hlt : k < s.size
    · by_cases h47 : s[k] = 47
      · have n1 : ((s[k].toNat : Int) == 47) = true := by rw [h47]; rfl
        have HF : Hid (T = k) := HV.out k HN.out (by rw [lget s k hlt, h47])
        clear h47
        go_wp2
        go_ret
        exact ⟨by rw [HF.out]; rfl, rfl⟩
      · have n1 : ((s[k].toNat : Int) == 47) = false := by rw [beq_eq_false_iff_ne]; intro e; apply h47; apply UInt8.toNat_inj.1; show s[k].toNat = 47; omega
        have HE : Hid (s.data.toList[k]? ≠ some 47) := by show _ ≠ _; rw [lget s k hlt]; simpa using h47
        clear h47
        go_wp2
        go_roundg (gk - 1)
        case measure => omega
        case rel =>
          refine ⟨k + 1, by omega, by go_num, rfl, ?_⟩
          intro j hj
          by_cases hjk : j < k
          · exact HN.out j hjk
          · obtain rfl : j = k := by omega
            exact HE.out
    · have HF : Hid (T = -1) := HW.out (fun j hj => HN.out j (by omega))
      go_wp2
      go_ret
      exact ⟨by rw [HF.out]; rfl, rfl⟩
end Go.Proofs.Qxb6000995a
