import Derived.Test.Qxb6000768aL1
set_option linter.unusedSimpArgs false
set_option linter.unusedVariables false
namespace Go.Proofs.Qxb6000768a

theorem takeWhile_app (a b : Bs) (h : (47 : UInt8) ∉ a) (hb : b = [] ∨ ∃ y, b = 47 :: y) : ((a ++ b).takeWhile (fun c => c != 47)) = a := by
  induction a with
  | nil =>
    rcases hb with rfl | ⟨y, rfl⟩
    · rfl
    · simp [List.takeWhile_cons]
  | cons x a ih =>
    have hx : x ≠ 47 := by rintro rfl; exact h (by simp)
    have ha : (47 : UInt8) ∉ a := fun hh => h (by simp [hh])
    simp [List.takeWhile_cons, hx, ih ha]

theorem segLen_s (seg tl : Bs) (h : (47 : UInt8) ∉ seg) (hb : tl = [] ∨ ∃ y, tl = 47 :: y) : segLen (47 :: (seg ++ tl)) = seg.length + 1 := by
  simp [segLen, takeWhile_app seg tl h hb]; omega
theorem segLen_p (seg tl : Bs) (h : (47 : UInt8) ∉ seg) (hb : tl = [] ∨ ∃ y, tl = 47 :: y) (hn : seg ≠ []) : segLen (seg ++ tl) = seg.length := by
  match seg, hn with
  | c :: t, _ =>
    have hc : c ≠ 47 := by rintro rfl; exact h (by simp)
    simp only [List.cons_append, segLen, hc, if_false]
    rw [← List.cons_append, takeWhile_app _ tl h hb]

theorem pre1 (seg tl : Bs) (h : (47 : UInt8) ∉ seg) (hb : tl = [] ∨ ∃ y, tl = 47 :: y) (h1 : seg ≠ [46]) : List.isPrefixOf [46, 47] (seg ++ tl) = false := by
  match seg, h, h1 with
  | [], _, _ => rcases hb with rfl | ⟨y, rfl⟩ <;> simp [List.isPrefixOf]
  | [a], _, h1 => simp at h1; rcases hb with rfl | ⟨y, rfl⟩ <;> simp [List.isPrefixOf, Ne.symm h1]
  | a :: b :: c, h, _ =>
    have : b ≠ 47 := by rintro rfl; exact h (by simp)
    simp [List.isPrefixOf, Ne.symm this]
theorem pre2 (seg tl : Bs) (h : (47 : UInt8) ∉ seg) (hb : tl = [] ∨ ∃ y, tl = 47 :: y) (h2 : seg ≠ [46, 46]) : List.isPrefixOf [46, 46, 47] (seg ++ tl) = false := by
  match seg, h, h2 with
  | [], _, _ => rcases hb with rfl | ⟨y, rfl⟩ <;> simp [List.isPrefixOf]
  | [a], _, _ => rcases hb with rfl | ⟨y, rfl⟩ <;> simp [List.isPrefixOf]
  | [a, b], _, h2 =>
    have : ¬ (a = 46 ∧ b = 46) := by rintro ⟨rfl, rfl⟩; exact h2 rfl
    rcases hb with rfl | ⟨y, rfl⟩
    · simp [List.isPrefixOf]
    · simp [List.isPrefixOf]; intro e1 e2; exact this ⟨e1.symm, e2.symm⟩
  | a :: b :: c :: d, h, _ =>
    have : c ≠ 47 := by rintro rfl; exact h (by simp)
    simp [List.isPrefixOf, Ne.symm this]

theorem RD_slash_other (o seg tl : Bs) (h : (47 : UInt8) ∉ seg) (hb : tl = [] ∨ ∃ y, tl = 47 :: y) (h1 : seg ≠ [46]) (h2 : seg ≠ [46, 46]) : RD o (47 :: (seg ++ tl)) = RD (o ++ 47 :: seg) tl := by
  have p1 := pre1 seg tl h hb h1
  have p2 := pre2 seg tl h hb h2
  have e1 : seg ++ tl ≠ [46] := by
    intro e
    rcases hb with rfl | ⟨y, rfl⟩
    · simp at e; exact h1 e
    · have : (47 : UInt8) ∈ ([46] : Bs) := by rw [← e]; simp
      simp at this
  have e2 : seg ++ tl ≠ [46, 46] := by
    intro e
    rcases hb with rfl | ⟨y, rfl⟩
    · simp at e; exact h2 e
    · have : (47 : UInt8) ∈ ([46, 46] : Bs) := by rw [← e]; simp
      simp at this
  rw [RD_H o (47 :: (seg ++ tl)) (by simp) (by simp [List.isPrefixOf]) (by simp [List.isPrefixOf]) (by simpa [List.isPrefixOf] using p1) (by simpa using e1) (by simpa [List.isPrefixOf] using p2) (by simpa using e2) (by simp) (by simp), segLen_s seg tl h hb]
  simp
theorem RD_slash_dot (o y : Bs) : RD o (47 :: ([46] ++ 47 :: y)) = RD o (47 :: y) := by
  rw [RD_C o _ (by simp [List.isPrefixOf]) (by simp [List.isPrefixOf]) (by simp [List.isPrefixOf])]; simp
theorem RD_slash (o : Bs) : RD o [47] = o ++ [47] := by
  have := RD_slash_other o [] [] (by simp) (.inl rfl) (by simp) (by simp)
  simpa [RD_nil] using this
theorem RD_slash_dot_last (o : Bs) : RD o (47 :: ([46] ++ [])) = o ++ [47] := by
  rw [← RD_slash]; exact RD_D o
theorem RD_slash_dots (o y : Bs) : RD o (47 :: ([46, 46] ++ 47 :: y)) = RD (dropSeg o) (47 :: y) := by
  rw [RD_E o _ (by simp [List.isPrefixOf]) (by simp [List.isPrefixOf]) (by simp [List.isPrefixOf]) (by simp) (by simp [List.isPrefixOf])]; simp
theorem RD_slash_dots_last (o : Bs) : RD o (47 :: ([46, 46] ++ [])) = dropSeg o ++ [47] := by
  rw [← RD_slash]; exact RD_F o
theorem RD_plain_other (o seg tl : Bs) (h : (47 : UInt8) ∉ seg) (hb : tl = [] ∨ ∃ y, tl = 47 :: y) (hn : seg ≠ []) (h1 : seg ≠ [46]) (h2 : seg ≠ [46, 46]) : RD o (seg ++ tl) = RD (o ++ seg) tl := by
  have p1 := pre1 seg tl h hb h1
  have p2 := pre2 seg tl h hb h2
  have e1 : seg ++ tl ≠ [46] := by
    intro e
    rcases hb with rfl | ⟨y, rfl⟩
    · simp at e; exact h1 e
    · have : (47 : UInt8) ∈ ([46] : Bs) := by rw [← e]; simp
      simp at this
  have e2 : seg ++ tl ≠ [46, 46] := by
    intro e
    rcases hb with rfl | ⟨y, rfl⟩
    · simp at e; exact h2 e
    · have : (47 : UInt8) ∈ ([46, 46] : Bs) := by rw [← e]; simp
      simp at this
  have hh : ∃ c t, seg = c :: t ∧ c ≠ 47 := by
    match seg, hn with
    | c :: t, _ => exact ⟨c, t, rfl, by rintro rfl; exact h (by simp)⟩
  obtain ⟨c, t, rfl, hc⟩ := hh
  rw [RD_H o _ (by simp) p2 p1 (by simp [List.isPrefixOf, Ne.symm hc]) (by simp [hc]) (by simp [List.isPrefixOf, Ne.symm hc]) (by simp [hc]) e1 e2, segLen_p _ tl h hb (by simp)]
  rw [List.take_left, List.drop_left]
theorem RD_plain_dot (o y : Bs) : RD o ([46] ++ 47 :: y) = RD o y := by
  rw [RD_B o _ (by simp [List.isPrefixOf]) (by simp [List.isPrefixOf])]; simp
theorem RD_plain_dots (o y : Bs) : RD o ([46, 46] ++ 47 :: y) = RD o y := by
  rw [RD_A o _ (by simp [List.isPrefixOf])]; simp

/-- a piece that dot removal keeps -/
def GoodP (t : Bs) : Prop := t ≠ [] ∧ (47 : UInt8) ∉ t.tail ∧ t ≠ [46] ∧ t ≠ [46, 46] ∧ t ≠ [47, 46] ∧ t ≠ [47, 46, 46]
theorem goodP_slash (seg : Bs) (h : (47 : UInt8) ∉ seg) (h1 : seg ≠ [46]) (h2 : seg ≠ [46, 46]) : GoodP (47 :: seg) := ⟨by simp, by simpa using h, by simp, by simp, by simpa using h1, by simpa using h2⟩
theorem goodP_plain (seg : Bs) (h : (47 : UInt8) ∉ seg) (hn : seg ≠ []) (h1 : seg ≠ [46]) (h2 : seg ≠ [46, 46]) : GoodP seg :=
  ⟨hn, fun e => h (List.mem_of_mem_tail e), h1, h2, by rintro rfl; simp at h, by rintro rfl; simp at h⟩
end Go.Proofs.Qxb6000768a
