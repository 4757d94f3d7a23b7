import Derived.Test.Qxb6000768aW8
set_option linter.unusedSimpArgs false
set_option linter.unusedVariables false
namespace Go.Proofs.Qxb6000768a
open Go.RowKit

/-- the length bound of the first law -/
def small2 (a b : ByteArray) : Bool := decide (a.size ≤ 1048576 ∧ b.size ≤ 1048576 ∧ a.size + b.size ≤ 1048576)

theorem zzBytes10 (a b : ByteArray) (w : World) (ha : a.size ≤ maxLen) (hb : b.size ≤ maxLen) :
    Calls Try.prog 10 #[.string a, .string b] w fun e w' => e = .returned (.bool (small2 a b)) ∧ w' = w := by
  unfold maxLen at ha hb
  by_cases h1 : a.size ≤ 1048576
  · by_cases h2 : b.size ≤ 1048576
    · by_cases h3 : a.size + b.size ≤ 1048576
      · have H : Hid (small2 a b = true) := by simp [small2, Hid]; omega
        go_enter Try.func10, Try.ntmps10
        go_wp2
        go_ret
        exact ⟨by rw [H.out]; rfl, rfl⟩
      · have H : Hid (small2 a b = false) := by simp [small2, Hid]; omega
        go_enter Try.func10, Try.ntmps10
        go_wp2
        go_ret
        exact ⟨by rw [H.out]; rfl, rfl⟩
    · have H : Hid (small2 a b = false) := by simp [small2, Hid]; omega
      go_enter Try.func10, Try.ntmps10
      go_wp2
      go_ret
      exact ⟨by rw [H.out]; rfl, rfl⟩
  · have H : Hid (small2 a b = false) := by simp [small2, Hid]; omega
    go_enter Try.func10, Try.ntmps10
    go_wp2
    go_ret
    exact ⟨by rw [H.out]; rfl, rfl⟩

theorem mk_data (l : Bs) : (ByteArray.mk l.toArray).data.toList = l := rfl
theorem mk_size (l : Bs) : (ByteArray.mk l.toArray).size = l.length := by show l.toArray.size = _; simp

theorem walk3 (a0 : ByteArray) (a1 : ByteArray) (w0 : a0.size ≤ maxLen) (w1 : a1.size ≤ maxLen) (w : World) :
    Calls Try.prog 3 #[.string a0, .string a1] w fun e w' => e = .returned (.bool true) ∧ Below w.heap.size w w' := by
  have hz := fun w => zzBytes10 a0 a1 w w0 w1
  unfold maxLen at w0 w1
  cases hs : small2 a0 a1 with
  | false =>
    rw [hs] at hz
    go_enter Try.func3, Try.ntmps3
    go_wp2_with (first | (go_at_call 10; refine (hz _).mono ?_; rintro e w ⟨rfl, rfl⟩))
    go_ret
    exact ⟨rfl, Below.refl _ _⟩
  | true =>
    rw [hs] at hz
    have hs' : a0.size ≤ 1048576 ∧ a1.size ≤ 1048576 ∧ a0.size + a1.size ≤ 1048576 := by simpa [small2] using hs
    obtain ⟨g1, g2, g3⟩ := hs'
    clear hs
    by_cases h1 : a0.size ≤ 524288
    · by_cases h2 : a1.size ≤ 4096
      · have hr := fun w => zzRead_any a0 a1 w (by omega) (by omega)
        have hd := fun w => zzRemoveDots_any a1 w (by omega)
        have hlen := RD_len [] a1.data.toList
        have hlen2 : (ByteArray.mk (RD [] a1.data.toList).toArray).size ≤ 4096 := by rw [mk_size]; simp [blen] at hlen; omega
        have hbq : ((ByteArray.mk (a0.data.toList ++ RD [] a1.data.toList).toArray).toList == (a0 ++ ByteArray.mk (RD [] a1.data.toList).toArray).toList) = true := by
          rw [ByteArray.toList_eq, ByteArray.toList_eq]; simp
        generalize hR : (RD [] a1.data.toList).toArray = R at *
        generalize hA : (a0.data.toList ++ RD [] a1.data.toList).toArray = A at *
        clear hR hA hlen
        go_enter Try.func3, Try.ntmps3
        go_wp2_with (first | (go_at_call 10; refine (hz _).mono ?_; rintro e w ⟨rfl, rfl⟩) | (go_at_call 11; refine (hr _).mono ?_; rintro e w2 ⟨rfl, hb2⟩) | (go_at_call 12; refine (hd _).mono ?_; rintro e w3 ⟨rfl, hb3⟩))
        go_ret
        exact ⟨rfl, hb2.trans (hb3.mono hb2.size)⟩
      · go_enter Try.func3, Try.ntmps3
        go_wp2_with (first | (go_at_call 10; refine (hz _).mono ?_; rintro e w ⟨rfl, rfl⟩))
        go_ret
        exact ⟨rfl, Below.refl _ _⟩
    · go_enter Try.func3, Try.ntmps3
      go_wp2_with (first | (go_at_call 10; refine (hz _).mono ?_; rintro e w ⟨rfl, rfl⟩))
      go_ret
      exact ⟨rfl, Below.refl _ _⟩
end Go.Proofs.Qxb6000768a
