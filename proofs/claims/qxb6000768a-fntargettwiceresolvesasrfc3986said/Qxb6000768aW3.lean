import Derived.Test.Qxb6000768aW2
import Derived.Test.Qxb6000768aK
set_option linter.unusedSimpArgs false
set_option linter.unusedVariables false
namespace Go.Proofs.Qxb6000768a
open Go.RowKit

theorem bt : ByteT Try.prog 44 5 := ⟨Try.underlying44, Try.underlying5, info_parts (show (Try.prog.info? 5).map (fun i => (i.zero, i.size, i.bytes)) = some (some (.int .u8 0), 1, 1) from by kernel_rfl)⟩
theorem u8_beq (c : UInt8) (n : Nat) (h : n < 256) : ((c.toNat : Int) == (n : Int)) = (c == UInt8.ofNat n) := by
  rw [Bool.eq_iff_iff]; simp only [beq_iff_eq]
  constructor
  · intro e; apply UInt8.toNat_inj.1; simp; omega
  · rintro rfl; simp; omega
theorem ne47 {c : UInt8} (h : c ≠ 47) : ((c.toNat : Int) != 47) = true := by
  rw [bne_iff_ne]; intro e; apply h; apply UInt8.toNat_inj.1; show c.toNat = 47; omega
theorem eq47 {c : UInt8} (h : c = 47) : ((c.toNat : Int) != 47) = false := by rw [h]; rfl
theorem beq47_no {c : UInt8} (h : c ≠ 47) : ((c.toNat : Int) == 47) = false := by
  rw [beq_eq_false_iff_ne]; intro e; apply h; apply UInt8.toNat_inj.1; show c.toNat = 47; omega
theorem beq47_yes {c : UInt8} (h : c = 47) : ((c.toNat : Int) == 47) = true := by rw [h]; rfl

theorem not_mem_drop (xs : Bs) (k : Nat) (h : k < xs.length) (hn : (47 : UInt8) ∉ xs.drop (k + 1)) (hk : xs[k] ≠ 47) : (47 : UInt8) ∉ xs.drop k := by
  rw [List.drop_eq_getElem_cons h]
  intro hh
  rcases List.mem_cons.1 hh with h1 | h1
  · exact hk h1.symm
  · exact hn h1
theorem split_at (xs : Bs) (k : Nat) (h : k < xs.length) (hn : (47 : UInt8) ∉ xs.drop (k + 1)) (hk : xs[k] = 47) : (dropSeg xs).length = k := by
  have e : xs = xs.take k ++ 47 :: xs.drop (k + 1) := by
    conv => lhs; rw [← List.take_append_drop k xs, List.drop_eq_getElem_cons h, hk]
  rw [e, dropSeg_at _ _ hn]
  simp; omega

theorem drop_any (g cap : Nat) (xs : Bs) (n : Nat) (hxn : n = xs.length) (w : World) (hc : Row w 5 g cap xs) (hcap : cap ≤ 100000000) :
    Calls Try.prog 31 #[.slice (some ⟨g, 0, none⟩) n cap] w fun e w' => e = .returned (.slice (some ⟨g, 0, none⟩) (dropSeg xs).length cap) ∧ w' = w := by
  subst hxn
  have hl := hc.le
  go_enter Try.func31, Try.ntmps31
  go_wp2
  go_loop [3] (fun i => (∃ k : Nat, k < xs.length ∧ i = .int .i64 k ∧ (47 : UInt8) ∉ xs.drop (k + 1)) ∨ (i = .int .i64 (-1) ∧ (47 : UInt8) ∉ xs)) (fun i => (intOf i + 1).toNat)
  case atStart =>
    rcases Nat.eq_zero_or_pos xs.length with h | h
    · right
      have : xs = [] := List.eq_nil_of_length_eq_zero h
      subst this
      exact ⟨by simp, by simp⟩
    · left
      exact ⟨xs.length - 1, by omega, by go_num, by rw [List.drop_eq_nil_of_le (by omega)]; simp⟩
  case round =>
    rcases hrel with ⟨k, hk, rfl, hn⟩ | ⟨rfl, hn⟩
    · have hck := hc.cell k hk
      have HN : Hid ((47 : UInt8) ∉ xs.drop (k + 1)) := hn
      clear hn
      by_cases h47 : xs[k] = 47
      · have hb := eq47 h47
        have H4 : Hid ((dropSeg xs).length = k) := split_at xs k hk HN.out h47
        clear h47
        go_wp2
        go_ret
        exact ⟨by rw [H4.out]; rfl, rfl⟩
      · have hb := ne47 h47
        have H4 := not_mem_drop xs k hk HN.out h47
        have H5 : Hid ((47 : UInt8) ∉ xs.drop k) := H4
        clear h47 H4
        go_wp2
        go_round
        case rel =>
          cases k with
          | zero => right; exact ⟨by simp, by simpa using H5.out⟩
          | succ k => left; exact ⟨k, by omega, by go_num, H5.out⟩
        case measure => simp [intOf]
    · have H4 : Hid ((dropSeg xs).length = 0) := by show (dropSeg xs).length = 0; rw [dropSeg_none xs hn]; rfl
      go_wp2
      go_ret
      exact ⟨by rw [H4.out]; rfl, rfl⟩
end Go.Proofs.Qxb6000768a
