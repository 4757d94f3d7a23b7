import Derived.Test.Qxb6000995aW3
set_option linter.unusedSimpArgs false
set_option linter.unusedVariables false
namespace Go.Proofs.Qxb6000995a
open Go.RowKit

theorem Row.push {w : World} {e : TypeId} {g cap : Nat} {xs : Bs} (h : Row w e g cap xs) (hlt : xs.length < cap) (b : UInt8) : Row (w.setCell ⟨g, xs.length, none⟩ (.int .u8 (b.toNat : Int))) e g cap (xs ++ [b]) := by
  obtain ⟨cur, hg, hsz, hle, ht⟩ := h
  refine ⟨cur.setIfInBounds xs.length (.int .u8 (b.toNat : Int)), ?_, by simpa using hsz, by simp; omega, ?_⟩
  · simp [World.setCell, Array.getElem?_modify, hg]
  · rw [bvals_app, ← ht]
    have hl : cur.toList.length = cap := by simpa using hsz
    rw [Array.toList_setIfInBounds]
    apply List.ext_getElem?
    intro j
    simp only [List.length_append, List.length_cons, List.length_nil]
    rcases Nat.lt_trichotomy j xs.length with h1 | h1 | h1
    · rw [List.getElem?_take_of_lt (by omega), List.getElem?_append_left (by simp [hl]; omega), List.getElem?_take_of_lt h1, List.getElem?_set_ne (by omega)]
    · subst h1
      rw [List.getElem?_take_of_lt (by omega), List.getElem?_append_right (by simp [hl]; omega), List.getElem?_set_self (by omega)]
      simp [hl, Nat.min_eq_left hle, bvals]
    · rw [List.getElem?_eq_none (by simp; omega), List.getElem?_eq_none (by simp [bvals]; omega)]
theorem Row.some {w : World} {e : TypeId} {g cap : Nat} {xs : Bs} (h : Row w e g cap xs) (j : Nat) (hj : j < cap) : ∃ v, w.cell? ⟨g, j, none⟩ = some v := by
  obtain ⟨cur, hg, hsz, hle, ht⟩ := h
  exact ⟨cur[j]'(by omega), by simp [World.cell?, hg, show j < cur.size by omega]⟩

theorem take_snoc (l : Bs) (k : Nat) (c : UInt8) (h : l[k]? = some c) : (l.take (k + 1)).map lowB = (l.take k).map lowB ++ [lowB c] := by
  have hlt : k < l.length := by
    rcases Nat.lt_or_ge k l.length with h' | h'
    · exact h'
    · rw [List.getElem?_eq_none h'] at h; simp at h
  rw [List.getElem?_eq_getElem hlt] at h
  rw [List.take_succ_eq_append_getElem hlt, Option.some.inj h]; simp

theorem mapLower_any (s : ByteArray) (hs : s.size ≤ 1000000) (w : World) :
    Calls Try.prog 11 #[.string s] w fun e w' => e = .returned (.string (S (s.data.toList.map lowB))) ∧ Below w.heap.size w w' := by
  have hlen : s.data.toList.length = s.size := blen s
  have hmk := run_make_bytes bt s.size s.size (Nat.le_refl _) (by omega)
  have HE : Hid (s.data.toList.map lowB = (s.data.toList.take s.size).map lowB) := by show _ = _; rw [List.take_of_length_le (by omega)]
  generalize s.data.toList.map lowB = T at *
  go_enter Try.func11, Try.ntmps11
  go_wp2
  generalize hB : w.heap.size = B at *
  have hr0 : Row (w.alloc (.cells (zeros s.size) 5)) 5 B s.size [] := by rw [← hB]; exact Row.made w 5 s.size 0 (Nat.zero_le _)
  have hb0 : Below B w (w.alloc (.cells (zeros s.size) 5)) := by rw [← hB]; exact (Below.refl _ _).alloc (Nat.le_refl _) _
  generalize w.alloc (.cells (zeros s.size) 5) = w1 at *
  go_loopg [4] s.size (fun g i wx => ∃ k : Nat, k + g = s.size ∧ i = .int .i64 k ∧ Row wx 5 B s.size ((s.data.toList.take k).map lowB) ∧ Below B w wx)
  case atStart => exact ⟨0, by omega, rfl, by simpa using hr0, hb0⟩
  case round =>
    obtain ⟨k, hkg, rfl, hr, hb⟩ := hrel
    by_cases hlt : k < s.size
    · have hlk : ((s.data.toList.take k).map lowB).length = k := by simp; omega
      obtain ⟨v0, hv0⟩ := hr.some k hlt
      have hth := hr.thaw k
      have hpush := hr.push (by omega) (lowB s[k])
      rw [hlk, ← take_snoc _ k _ (lget s k hlt)] at hpush
      have hlo := fun w => lowerB_any s[k] w
      have hbn := hb.setCell (p := ⟨B, k, none⟩) (Nat.le_refl _) (.int .u8 ((lowB s[k]).toNat : Int))
      go_wp2_with (first | (go_at_call 25; refine (hlo _).mono ?_; rintro e w2 ⟨rfl, hw2⟩; have hw2 := hw2.symm; subst hw2))
      go_roundg (gk - 1)
      case measure => omega
      case rel => exact ⟨k + 1, by omega, by go_num, hpush, hbn⟩
    · obtain rfl : k = s.size := by omega
      have hcv := run_to_string (n := s.size) bt Try.underlying9 hr (by simp [hlen])
      rw [← HE.out] at hcv
      go_wp2
      go_ret
      exact ⟨rfl, by rw [hB]; exact hb⟩
end Go.Proofs.Qxb6000995a
