import Derived.Test.Qxb6000768aL3
set_option linter.unusedSimpArgs false
set_option linter.unusedVariables false
namespace Go.Proofs.Qxb6000768a

/-- up to the last slash, that slash counted in -/
def upSlash (p : Bs) : Bs := (p.reverse.dropWhile (fun c => c != 47)).reverse
theorem upSlash_none (p : Bs) (h : (47 : UInt8) ∉ p) : upSlash p = [] := by
  unfold upSlash; rw [dropWhile_all _ (by simpa using h)]; rfl
theorem upSlash_at (a b : Bs) (h : (47 : UInt8) ∉ b) : upSlash (a ++ 47 :: b) = a ++ [47] := by
  unfold upSlash
  have e : (a ++ 47 :: b).reverse = b.reverse ++ 47 :: a.reverse := by simp
  rw [e, dropWhile_app _ _ (by simpa using h)]
  simp
theorem split_last (p : Bs) (h : (47 : UInt8) ∈ p) : ∃ a b, p = a ++ 47 :: b ∧ (47 : UInt8) ∉ b := by
  have h' : (47 : UInt8) ∈ p.reverse := by simpa using h
  obtain ⟨a, b, hab, hn⟩ := List.eq_append_cons_of_mem h'
  refine ⟨b.reverse, a.reverse, ?_, by simpa using hn⟩
  have := congrArg List.reverse hab
  simpa using this
theorem upSlash_len (p : Bs) : (upSlash p).length ≤ p.length := by
  by_cases h : (47 : UInt8) ∈ p
  · obtain ⟨a, b, rfl, hb⟩ := split_last p h
    rw [upSlash_at a b hb]; simp
  · rw [upSlash_none p h]; simp

/-- RFC 3986, 5.2.3 -/
def merge (R : PRef) (rp : Bs) : Bs := if R.ha = true ∧ R.path = [] then 47 :: rp else upSlash R.path ++ rp

/-- the first segment of what stands in l -/
theorem seg_split (l : Bs) : ∃ seg tl : Bs, l = seg ++ tl ∧ (47 : UInt8) ∉ seg ∧ (tl = [] ∨ ∃ y, tl = 47 :: y) := by
  by_cases h : (47 : UInt8) ∈ l
  · obtain ⟨a, b, hab, hn⟩ := List.eq_append_cons_of_mem h
    exact ⟨a, 47 :: b, hab, hn, .inr ⟨b, rfl⟩⟩
  · exact ⟨l, [], by simp, h, .inl rfl⟩

/-- reading a path up to a slash does not hang on what follows that slash -/
theorem RD_upto : ∀ (n : Nat) (j o : Bs), j.length ≤ n →
    ((j = [] ∨ ∃ x, j = 47 :: x) → ∃ o', ∀ z, RD o (j ++ 47 :: z) = RD o' (47 :: z)) ∧
    ((∃ o', ∀ z, RD o (j ++ 47 :: z) = RD o' (47 :: z)) ∨ (∀ z, RD o (j ++ 47 :: z) = RD o z)) := by
  intro n
  induction n with
  | zero =>
    intro j o h
    have : j = [] := List.eq_nil_of_length_eq_zero (by omega)
    subst this
    exact ⟨fun _ => ⟨o, fun z => rfl⟩, .inl ⟨o, fun z => rfl⟩⟩
  | succ n ih =>
    intro j o hj
    have slash : ∀ x, j = 47 :: x → ∃ o', ∀ z, RD o (j ++ 47 :: z) = RD o' (47 :: z) := by
      rintro x rfl
      obtain ⟨seg, tl, rfl, hno, htl⟩ := seg_split x
      rcases htl with rfl | ⟨y, rfl⟩
      · by_cases h1 : seg = [46]
        · subst h1; exact ⟨o, fun z => by simpa using RD_slash_dot o z⟩
        · by_cases h2 : seg = [46, 46]
          · subst h2; exact ⟨dropSeg o, fun z => by simpa using RD_slash_dots o z⟩
          · exact ⟨o ++ 47 :: seg, fun z => by simpa using RD_slash_other o seg (47 :: z) hno (.inr ⟨z, rfl⟩) h1 h2⟩
      · have hlen : (47 :: y).length ≤ n := by simp at hj ⊢; omega
        have key : ∀ o1, (∀ z, RD o (47 :: (seg ++ 47 :: y) ++ 47 :: z) = RD o1 (47 :: y ++ 47 :: z)) → ∃ o', ∀ z, RD o (47 :: (seg ++ 47 :: y) ++ 47 :: z) = RD o' (47 :: z) := by
          intro o1 h
          obtain ⟨o', h'⟩ := (ih (47 :: y) o1 hlen).1 (.inr ⟨y, rfl⟩)
          exact ⟨o', fun z => (h z).trans (h' z)⟩
        by_cases h1 : seg = [46]
        · subst h1; exact key o (fun z => by simpa using RD_slash_dot o (y ++ 47 :: z))
        · by_cases h2 : seg = [46, 46]
          · subst h2; exact key (dropSeg o) (fun z => by simpa using RD_slash_dots o (y ++ 47 :: z))
          · exact key (o ++ 47 :: seg) (fun z => by simpa using RD_slash_other o seg (47 :: (y ++ 47 :: z)) hno (.inr ⟨_, rfl⟩) h1 h2)
    refine ⟨?_, ?_⟩
    · rintro (rfl | ⟨x, hx⟩)
      · exact ⟨o, fun z => rfl⟩
      · exact slash x hx
    · obtain ⟨seg, tl, hst, hno, htl⟩ := seg_split j
      by_cases h0 : seg = []
      · subst h0
        rcases htl with rfl | ⟨y, rfl⟩
        · exact .inl ⟨o, fun z => by rw [hst]; rfl⟩
        · exact .inl (slash y (by simpa using hst))
      · subst hst
        rcases htl with rfl | ⟨y, rfl⟩
        · by_cases h1 : seg = [46]
          · subst h1; exact .inr fun z => by simpa using RD_plain_dot o z
          · by_cases h2 : seg = [46, 46]
            · subst h2; exact .inr fun z => by simpa using RD_plain_dots o z
            · exact .inl ⟨o ++ seg, fun z => by simpa using RD_plain_other o seg (47 :: z) hno (.inr ⟨z, rfl⟩) h0 h1 h2⟩
        · by_cases h1 : seg = [46]
          · subst h1
            rcases (ih y o (by simp at hj; omega)).2 with ⟨o', h'⟩ | h'
            · exact .inl ⟨o', fun z => by rw [← h' z]; simpa using RD_plain_dot o (y ++ 47 :: z)⟩
            · exact .inr fun z => by rw [← h' z]; simpa using RD_plain_dot o (y ++ 47 :: z)
          · by_cases h2 : seg = [46, 46]
            · subst h2
              rcases (ih y o (by simp at hj; omega)).2 with ⟨o', h'⟩ | h'
              · exact .inl ⟨o', fun z => by rw [← h' z]; simpa using RD_plain_dots o (y ++ 47 :: z)⟩
              · exact .inr fun z => by rw [← h' z]; simpa using RD_plain_dots o (y ++ 47 :: z)
            · have hpos : 0 < seg.length := List.length_pos_iff.2 h0
              obtain ⟨o', h'⟩ := (ih (47 :: y) (o ++ seg) (by simp at hj ⊢; omega)).1 (.inr ⟨y, rfl⟩)
              exact .inl ⟨o', fun z => by rw [← h' z]; simpa using RD_plain_other o seg (47 :: (y ++ 47 :: z)) hno (.inr ⟨_, rfl⟩) h0 h1 h2⟩

/-- what is joined ends with a slash: read on behind it -/
theorem RD_join (j rp : Bs) : (RD [] (j ++ [47]) = [] ∧ RD [] (j ++ 47 :: rp) = RD [] rp) ∨ (∃ o', RD [] (j ++ [47]) = o' ++ [47] ∧ RD [] (j ++ 47 :: rp) = RD o' (47 :: rp)) := by
  rcases (RD_upto j.length j [] (Nat.le_refl _)).2 with ⟨o', h⟩ | h
  · exact .inr ⟨o', by rw [h [], RD_slash], h rp⟩
  · exact .inl ⟨by rw [h []]; exact RD_nil _, h rp⟩
end Go.Proofs.Qxb6000768a
