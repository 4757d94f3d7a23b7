import Derived.Test.Qxb6000880aK
import Derived.BigQuiet
import Derived.Deep.DeepCutAuto
set_option linter.unusedSimpArgs false
set_option linter.unusedVariables false
namespace Go.Proofs.Qxb6000880a
open Go.RowKit

def sp (c : UInt8) : Bool := c == 32 || c == 10 || c == 13 || c == 9 || c == 12

theorem tst {c : UInt8} {n : UInt8} (h : c ≠ n) : ((c.toNat : Int) == (n.toNat : Int)) = false := by rw [u8_eq]; simp [h]

theorem isSpace_any (c : UInt8) (w : World) : Calls Try.prog 36 #[.int .u8 (c.toNat : Int)] w fun e w' => e = .returned (.bool (sp c)) ∧ w' = w := by
  by_cases h0 : c = 32
  · subst h0
    go_enter Try.func36, Try.ntmps36
    go_wp2
    go_ret
    exact ⟨rfl, rfl⟩
  by_cases h1 : c = 10
  · subst h1
    go_enter Try.func36, Try.ntmps36
    go_wp2
    go_ret
    exact ⟨rfl, rfl⟩
  by_cases h2 : c = 13
  · subst h2
    go_enter Try.func36, Try.ntmps36
    go_wp2
    go_ret
    exact ⟨rfl, rfl⟩
  by_cases h3 : c = 9
  · subst h3
    go_enter Try.func36, Try.ntmps36
    go_wp2
    go_ret
    exact ⟨rfl, rfl⟩
  by_cases h4 : c = 12
  · subst h4
    go_enter Try.func36, Try.ntmps36
    go_wp2
    go_ret
    exact ⟨rfl, rfl⟩
  have n0 : ((c.toNat : Int) == 32) = false := tst h0
  have n1 : ((c.toNat : Int) == 10) = false := tst h1
  have n2 : ((c.toNat : Int) == 13) = false := tst h2
  have n3 : ((c.toNat : Int) == 9) = false := tst h3
  have n4 : ((c.toNat : Int) == 12) = false := tst h4
  have H : Hid (sp c = false) := by show _ = _; simp [sp, h0, h1, h2, h3, h4]
  go_enter Try.func36, Try.ntmps36
  go_wp2
  go_ret
  exact ⟨by rw [H.out]; rfl, rfl⟩

theorem zzIsSpace_any (c : UInt8) (w : World) : Calls Try.prog 26 #[.int .u8 (c.toNat : Int)] w fun e w' => e = .returned (.bool (sp c)) ∧ w' = w := by
  by_cases h0 : c = 32
  · subst h0
    go_enter Try.func26, Try.ntmps26
    go_wp2
    go_ret
    exact ⟨rfl, rfl⟩
  by_cases h1 : c = 9
  · subst h1
    go_enter Try.func26, Try.ntmps26
    go_wp2
    go_ret
    exact ⟨rfl, rfl⟩
  by_cases h2 : c = 10
  · subst h2
    go_enter Try.func26, Try.ntmps26
    go_wp2
    go_ret
    exact ⟨rfl, rfl⟩
  by_cases h3 : c = 12
  · subst h3
    go_enter Try.func26, Try.ntmps26
    go_wp2
    go_ret
    exact ⟨rfl, rfl⟩
  by_cases h4 : c = 13
  · subst h4
    go_enter Try.func26, Try.ntmps26
    go_wp2
    go_ret
    exact ⟨rfl, rfl⟩
  have n0 : ((c.toNat : Int) == 32) = false := tst h0
  have n1 : ((c.toNat : Int) == 9) = false := tst h1
  have n2 : ((c.toNat : Int) == 10) = false := tst h2
  have n3 : ((c.toNat : Int) == 12) = false := tst h3
  have n4 : ((c.toNat : Int) == 13) = false := tst h4
  have H : Hid (sp c = false) := by show _ = _; simp [sp, h0, h1, h2, h3, h4]
  go_enter Try.func26, Try.ntmps26
  go_wp2
  go_ret
  exact ⟨by rw [H.out]; rfl, rfl⟩

/-- 'skipSpace' from i over m blanks -/
theorem skipSpace_any (x : Addr) (c : Nat) (T : Bs) (i m : Nat) (w : World) (hl : T.length ≤ 100000000) (hc : ∀ (j : Nat) (h : j < T.length), w.cell? (x.add j) = some (u8v T[j]))
    (him : i + m ≤ T.length) (hsp : ∀ j, j < m → ∀ h : i + j < T.length, sp T[i + j] = true) (hstop : ∀ h : i + m < T.length, sp T[i + m] = false) :
    Calls Try.prog 35 #[.slice (some x) T.length c, .int .i64 (i : Int)] w fun e w' => e = .returned (.int .i64 ((i + m : Nat) : Int)) ∧ w' = w := by
  have hs := fun c w => isSpace_any c w
  unfold u8v at hc
  go_enter Try.func35, Try.ntmps35
  go_wp2_with fail
  go_loopg [1] m (fun g p wx => ∃ k : Nat, k + g = m ∧ p = .int .i64 ((i + k : Nat) : Int) ∧ wx = w)
  case atStart => exact ⟨0, by omega, rfl, rfl⟩
  case round =>
    obtain ⟨k, hkg, rfl, rfl⟩ := hrel
    by_cases hlt : k < m
    · have hT : i + k < T.length := by omega
      have h1 := hc (i + k) hT
      have h2 := hsp k hlt hT
      have h3 := hs T[i + k]
      rw [h2] at h3
      clear hsp hstop hs
      go_wp2_with (first | (go_at_call 36; refine (h3 _).mono ?_; rintro e w2 ⟨rfl, hw2⟩; have hw2 := hw2.symm; subst hw2))
      go_roundg (gk - 1)
      case measure => omega
      case rel => exact ⟨k + 1, by omega, by go_num, rfl⟩
    · obtain rfl : k = m := by omega
      by_cases hT : i + k < T.length
      · have h1 := hc (i + k) hT
        have h2 := hstop hT
        have h3 := hs T[i + k]
        rw [h2] at h3
        clear hsp hstop hs
        go_wp2_with (first | (go_at_call 36; refine (h3 _).mono ?_; rintro e w2 ⟨rfl, hw2⟩; have hw2 := hw2.symm; subst hw2))
        go_ret
        exact ⟨rfl, rfl⟩
      · clear hsp hstop hs
        go_wp2
        go_ret
        exact ⟨rfl, rfl⟩

/-- 'zzSameText' -/
theorem sameText_any (v : Value) (xs : Bs) (s : ByteArray) (w : World) (h1 : RD u8v w v xs) (hl : xs.length ≤ 100000000) (he : xs = s.data.toList) :
    Calls Try.prog 24 #[v, .string s] w fun e w' => e = .returned (.bool true) ∧ ∃ n, w' = w.drewN n := by
  obtain ⟨a, c, rfl, hcap, h1⟩ := h1
  have hsz : s.size = xs.length := by rw [he]; exact (Array.length_toList).symm
  have hsg : ∀ (k : Nat) (h : k < xs.length) (h' : k < s.size), s[k] = xs[k] := by
    intro k h h'
    subst he
    show s.data[k] = _
    simp
  clear he
  unfold u8v at h1
  have hn1 : (((xs.length : Nat) : Int) != ((s.size : Nat) : Int)) = false := by rw [hsz]; simp
  rcases Nat.eq_zero_or_pos xs.length with h0 | h0
  · have hs0 : s.size = 0 := by omega
    rw [h0, hs0] at hn1
    rw [h0]
    clear h1 hcap hsg
    go_enter Try.func24, Try.ntmps24
    go_wp2_with fail
    go_loopg [5] 0 (fun g i wx => i = .int .i64 0 ∧ wx = w)
    case atStart => exact ⟨rfl, rfl⟩
    case round =>
      obtain ⟨rfl, rfl⟩ := hrel
      go_wp2
      go_ret
      exact ⟨rfl, 0, rfl⟩
  · rcases h1 with ⟨_, rfl, _⟩ | ⟨x, rfl, h1⟩
    · simp at h0
    go_enter Try.func24, Try.ntmps24
    go_wp2_with fail
    go_loopg [5] xs.length (fun g i wx => ∃ k n : Nat, k + g = xs.length ∧ i = .int .i64 k ∧ wx = w.drewN n)
    case atStart => exact ⟨0, 0, by omega, rfl, rfl⟩
    case round =>
      obtain ⟨k, n, hkg, rfl, rfl⟩ := hrel
      by_cases hlt : k < xs.length
      · have hcell : (w.drewN n).cell? (x.add k) = some (.int .u8 (xs[k].toNat : Int)) := h1 k hlt
        have hk2 : k < s.size := by omega
        have hg := hsg k hlt hk2
        have hne : ((xs[k].toNat : Int) != (xs[k].toNat : Int)) = false := by simp
        go_upto_region 6 with fail
        go_quiet (fail)
        go_wp2
        go_roundg (gk - 1)
        case measure => omega
        case rel => exact ⟨k + 1, _, by omega, by go_num, rfl⟩
      · obtain rfl : k = xs.length := by omega
        go_wp2
        go_ret
        exact ⟨rfl, _, rfl⟩
end Go.Proofs.Qxb6000880a
