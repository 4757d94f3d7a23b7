import Derived.Test.Qxb6000768aX3
set_option linter.unusedSimpArgs false
set_option linter.unusedVariables false
namespace Go.Proofs.Qxb6000768a

theorem take_upTo (cs s : Bs) : s.take (upTo cs s) = s.takeWhile (fun c => !cs.contains c) := by
  unfold upTo
  conv => lhs; rw [← List.takeWhile_append_dropWhile (p := fun c => !cs.contains c) (l := s)]
  rw [List.takeWhile_append_dropWhile]
  exact (List.prefix_iff_eq_take.1 (List.takeWhile_prefix _)).symm
theorem cutAt_fst (c : UInt8) (s : Bs) : (cutAt c s).1 = s.takeWhile (fun x => ![c].contains x) := by
  unfold cutAt
  by_cases h : upTo [c] s < s.length
  · rw [if_pos h]; exact take_upTo _ _
  · rw [if_neg h, ← take_upTo, List.take_of_length_le (by omega)]
theorem cutAt_rejoin (c : UInt8) (s : Bs) : s = (cutAt c s).1 ++ (if (cutAt c s).2.2 then c :: (cutAt c s).2.1 else []) := by
  unfold cutAt
  by_cases h : upTo [c] s < s.length
  · rw [if_pos h]
    obtain ⟨b, h1, h2⟩ := upTo_at [c] s h
    simp at h2
    subst h2
    have := List.drop_eq_getElem_cons h
    simp only [if_true]
    conv => lhs; rw [← List.take_append_drop (upTo [b] s) s, this]
    rw [List.getElem?_eq_getElem h] at h1
    simp at h1
    rw [h1]
  · rw [if_neg h]; simp
theorem tw_no35 (cs a : Bs) (h35 : cs.contains 35 = true) (h : ∀ c ∈ a, cs.contains c = false) : ∀ c ∈ a, (![(35 : UInt8)].contains c) = true := by
  intro c hc
  have := h c hc
  simp
  rintro rfl
  rw [h35] at this
  simp at this
theorem take_upTo_no (cs s : Bs) : ∀ c ∈ s.take (upTo cs s), cs.contains c = false := by
  rw [take_upTo]
  intro c hc
  have := List.all_takeWhile (l := s) (p := fun c => !cs.contains c)
  rw [List.all_eq_true] at this
  simpa using this c hc

/-- what NewBase spells: the text less its fragment -/
theorem spell (s : Bs) (h : (parse s).hs = true) : (cutAt 35 s).1 = (parse s).scheme ++ [58] ++ (if (parse s).ha then [47, 47] ++ (parse s).authority else []) ++ (parse s).path ++ (if (parse s).hq then 63 :: (parse s).query else []) := by
  have e3 : ∀ l : Bs, (cutAt 35 l).1 = (cutAt 63 (cutAt 35 l).1).1 ++ (if (cutAt 63 (cutAt 35 l).1).2.2 then 63 :: (cutAt 63 (cutAt 35 l).1).2.1 else []) := fun l => cutAt_rejoin 63 _
  have e2 : ∀ l : Bs, (cutAt 35 l).1 = (if (cutAuth l).2.2 then [47, 47] ++ (cutAuth l).1 else []) ++ (cutAt 35 (cutAuth l).2.1).1 := by
    intro l
    unfold cutAuth
    by_cases hp : List.isPrefixOf [47, 47] l = true
    · rw [if_pos hp]
      obtain ⟨t, rfl⟩ := List.isPrefixOf_iff_prefix.1 hp
      simp only [if_true]
      have hd : ([47, 47] ++ t : Bs).drop 2 = t := rfl
      rw [hd]
      have hno := tw_no35 [47, 63, 35] (t.take (upTo [47, 63, 35] t)) (by decide) (take_upTo_no _ _)
      rw [cutAt_fst, cutAt_fst]
      conv => lhs; rw [← List.take_append_drop (upTo [47, 63, 35] t) t]
      rw [← List.append_assoc, List.takeWhile_append_of_pos]
      intro c hc
      rcases List.mem_append.1 hc with hc | hc
      · have : c = 47 := by simpa using hc
        subst this; decide
      · exact hno c hc
    · rw [if_neg hp]; simp
  have e1 : (cutAt 35 s).1 = (cutScheme s).1 ++ [58] ++ (cutAt 35 (cutScheme s).2.1).1 := by
    have hs : (cutScheme s).2.2 = true := h
    unfold cutScheme at hs ⊢
    by_cases hp : 0 < upTo [58, 47, 63, 35] s ∧ s[upTo [58, 47, 63, 35] s]? = some 58
    · rw [if_pos hp]
      have hlt : upTo [58, 47, 63, 35] s < s.length := by
        rcases Nat.lt_or_ge (upTo [58, 47, 63, 35] s) s.length with h | h
        · exact h
        · have := hp.2; rw [List.getElem?_eq_none h] at this; simp at this
      have h58 : s[upTo [58, 47, 63, 35] s] = 58 := by have := hp.2; rw [List.getElem?_eq_getElem hlt] at this; simpa using this
      have hno := tw_no35 [58, 47, 63, 35] (s.take (upTo [58, 47, 63, 35] s)) (by decide) (take_upTo_no _ _)
      rw [cutAt_fst, cutAt_fst]
      simp only
      have hsp : s = (s.take (upTo [58, 47, 63, 35] s) ++ [58]) ++ s.drop (upTo [58, 47, 63, 35] s + 1) := by
        conv => lhs; rw [← List.take_append_drop (upTo [58, 47, 63, 35] s) s, List.drop_eq_getElem_cons hlt, h58]
        simp
      conv => lhs; rw [hsp]
      rw [List.takeWhile_append_of_pos]
      intro c hc
      rcases List.mem_append.1 hc with hc | hc
      · exact hno c hc
      · have : c = 58 := by simpa using hc
        subst this; decide
    · rw [if_neg hp] at hs; simp at hs
  rw [e1, e2, e3]
  simp only [List.append_assoc]
  rfl

/-- no stretch between slashes is a dot segment -/
def DF (l : Bs) : Prop := ∀ a b c : Bs, l = a ++ b ++ c → (a = [] ∨ ∃ a', a = a' ++ [47]) → (c = [] ∨ ∃ c', c = 47 :: c') → (47 : UInt8) ∉ b → b ≠ [46] ∧ b ≠ [46, 46]
theorem DF.nil : DF [] := by
  intro a b c h _ _ _
  have : b = [] := by
    have := congrArg List.length h
    simp at this
    exact List.eq_nil_of_length_eq_zero (by omega)
  subst this; simp
theorem DF.plain (seg : Bs) (h : (47 : UInt8) ∉ seg) (h1 : seg ≠ [46]) (h2 : seg ≠ [46, 46]) : DF seg := by
  intro a b c e ha hc hb
  have a0 : a = [] := by
    rcases ha with ha | ⟨a', rfl⟩
    · exact ha
    · exact absurd (show (47 : UInt8) ∈ seg by rw [e]; simp) h
  have c0 : c = [] := by
    rcases hc with hc | ⟨c', rfl⟩
    · exact hc
    · exact absurd (show (47 : UInt8) ∈ seg by rw [e]; simp) h
  subst a0 c0
  simp at e
  subst e
  exact ⟨h1, h2⟩
theorem DF.snoc (x seg : Bs) (hx : DF x) (h : (47 : UInt8) ∉ seg) (h1 : seg ≠ [46]) (h2 : seg ≠ [46, 46]) : DF (x ++ 47 :: seg) := by
  intro a b c e ha hc hb
  rcases hc with rfl | ⟨c', rfl⟩
  · rw [List.append_nil] at e
    rcases List.append_eq_append_iff.1 e with ⟨m, e1, e2⟩ | ⟨m, e1, e2⟩
    · cases m with
      | nil => simp at e2; subst e2; simp at hb
      | cons y m =>
        simp at e2
        obtain ⟨rfl, e2⟩ := e2
        rcases ha with ha | ⟨a', ha⟩
        · rw [ha] at e1; simp at e1
        · rcases List.eq_nil_or_concat m with rfl | ⟨m', z, rfl⟩
          · simp at e2; subst e2; exact ⟨h1, h2⟩
          · rw [ha] at e1
            have h9 : a' ++ [47] = (x ++ 47 :: m') ++ [z] := by rw [e1]; simp
            have := (List.append_inj' h9 rfl).2
            simp at this
            subst this
            exact absurd (by rw [e2]; simp) h
    · exact absurd (by rw [e2]; simp) hb
  · rcases List.append_eq_append_iff.1 e with ⟨m, e1, e2⟩ | ⟨m, e1, e2⟩
    · cases m with
      | nil => simp at e1; exact hx a b [] (by simp [e1]) ha (.inl rfl) hb
      | cons y m =>
        simp at e2
        obtain ⟨rfl, e2⟩ := e2
        exact absurd (by rw [e2]; simp) h
    · cases m with
      | nil => simp at e1; exact hx a b [] (by simp [e1]) ha (.inl rfl) hb
      | cons y m =>
        simp at e2
        obtain ⟨rfl, e2⟩ := e2
        exact hx a b (47 :: m) e1 ha (.inr ⟨m, rfl⟩) hb
theorem Good.df : ∀ {ps : List ByteArray}, Good ps → DF (flat ps)
  | [], _ => DF.nil
  | t :: ts, h => by
    obtain ⟨⟨hn, h47, k1, k2, k3, k4⟩, hh, ht⟩ := h
    have hf : flat (t :: ts) = flat ts ++ t.data.toList := by simp [flat]
    rw [hf]
    cases hl : t.data.toList with
    | nil => exact absurd hl hn
    | cons c u =>
      rw [hl] at h47 hh k1 k2 k3 k4
      by_cases hc : c = 47
      · subst hc
        exact DF.snoc _ u (Good.df ht) (by simpa using h47) (by simpa using k3) (by simpa using k4)
      · rcases hh with hh | rfl
        · simp at hh; exact absurd hh hc
        · exact DF.plain (c :: u) (by simp; exact ⟨fun e => hc e.symm, by simpa using h47⟩) k1 k2
/-- in places -/
theorem DF.at {x : ByteArray} (h : DF x.data.toList) (i j : Nat) (hij : i ≤ j) (hj : j ≤ x.size) (hi : i = 0 ∨ x.data.toList[i - 1]? = some 47) (he : j = x.size ∨ x.data.toList[j]? = some 47)
    (hn : ∀ k, i ≤ k → k < j → x.data.toList[k]? ≠ some 47) : ((x.extract i j).toList == [46]) = false ∧ ((x.extract i j).toList == [46, 46]) = false := by
  have hlen : x.data.toList.length = x.size := blen x
  have hx : (x.extract i j).toList = (x.data.toList.take j).drop i := by
    rw [ByteArray.toList_eq]; simp [ByteArray.data_extract]
    rw [List.drop_take]
  have := h (x.data.toList.take i) ((x.data.toList.take j).drop i) (x.data.toList.drop j) (by
      have h1 : x.data.toList.take i = (x.data.toList.take j).take i := by rw [List.take_take]; congr 1; omega
      rw [h1, List.take_append_drop, List.take_append_drop]) ?_ ?_ ?_
  · rw [hx]; simpa using this
  · rcases hi with rfl | hi
    · exact .inl (by simp)
    · rcases Nat.eq_zero_or_pos i with rfl | h0
      · exact .inl (by simp)
      · refine .inr ⟨x.data.toList.take (i - 1), ?_⟩
        have hlt : i - 1 < x.data.toList.length := by omega
        have := List.take_succ_eq_append_getElem hlt
        rw [show i - 1 + 1 = i by omega] at this
        rw [this]
        rw [List.getElem?_eq_getElem hlt] at hi
        simp at hi
        simp [hi]
  · rcases he with rfl | he
    · exact .inl (by rw [List.drop_of_length_le (by omega)])
    · have hlt : j < x.data.toList.length := by
        rcases Nat.lt_or_ge j x.data.toList.length with h | h
        · exact h
        · rw [List.getElem?_eq_none h] at he; simp at he
      refine .inr ⟨x.data.toList.drop (j + 1), ?_⟩
      rw [List.drop_eq_getElem_cons hlt]
      rw [List.getElem?_eq_getElem hlt] at he
      rw [Option.some.inj he]
  · intro hm
    obtain ⟨k, hk, e⟩ := List.mem_iff_getElem.1 hm
    simp at hk e
    apply hn (i + k) (by omega) (by omega)
    have hlt : i + k < x.data.toList.length := by omega
    rw [List.getElem?_eq_getElem hlt]
    simpa using e
end Go.Proofs.Qxb6000768a
