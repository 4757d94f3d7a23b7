import Derived.KernelRfl
set_option linter.unusedSimpArgs false
set_option linter.unusedVariables false
namespace Go.Proofs.Qxb6000768a

abbrev Bs := List UInt8

/-- the output without its last segment and the slash before it -/
def dropSeg (out : Bs) : Bs := ((out.reverse.dropWhile (fun c => c != 47)).drop 1).reverse
/-- the length of the first segment, its slash counted in -/
def segLen (rest : Bs) : Nat :=
  match rest with
  | [] => 0
  | c :: t => if c = 47 then 1 + (t.takeWhile (fun c => c != 47)).length else (rest.takeWhile (fun c => c != 47)).length

/-- RFC 3986, 5.2.4, with fuel -/
def rd : Nat → Bs → Bs → Bs
  | 0, out, _ => out
  | n + 1, out, rest =>
    if rest = [] then out
    else if List.isPrefixOf [46, 46, 47] rest = true then rd n out (rest.drop 3)
    else if List.isPrefixOf [46, 47] rest = true then rd n out (rest.drop 2)
    else if List.isPrefixOf [47, 46, 47] rest = true then rd n out (rest.drop 2)
    else if rest = [47, 46] then rd n out [47]
    else if List.isPrefixOf [47, 46, 46, 47] rest = true then rd n (dropSeg out) (rest.drop 3)
    else if rest = [47, 46, 46] then rd n (dropSeg out) [47]
    else if rest = [46] ∨ rest = [46, 46] then rd n out []
    else rd n (out ++ rest.take (segLen rest)) (rest.drop (segLen rest))

theorem segLen_pos (rest : Bs) (h : rest ≠ []) : 0 < segLen rest := by
  match rest, h with
  | c :: t, _ =>
    unfold segLen
    by_cases hc : c = 47
    · simp [hc]; omega
    · simp [hc]
theorem segLen_le (rest : Bs) : segLen rest ≤ rest.length := by
  match rest with
  | [] => simp [segLen]
  | c :: t =>
    unfold segLen
    by_cases hc : c = 47
    · simp [hc]; have := (List.takeWhile_prefix (l := t) (fun c => c != 47)).length_le; omega
    · simp only [hc, if_false]; exact (List.takeWhile_prefix (l := c :: t) (fun c => c != 47)).length_le

theorem rd_nil (n : Nat) (out : Bs) : rd n out [] = out := by cases n <;> simp [rd]

theorem rd_fuel : ∀ (n m : Nat) (out rest : Bs), rest.length ≤ n → rest.length ≤ m → rd n out rest = rd m out rest := by
  intro n
  induction n with
  | zero =>
    intro m out rest h _
    have : rest = [] := List.eq_nil_of_length_eq_zero (by omega)
    subst this; rw [rd_nil, rd_nil]
  | succ n ih =>
    intro m out rest h hm
    cases m with
    | zero =>
      have : rest = [] := List.eq_nil_of_length_eq_zero (by omega)
      subst this; rw [rd_nil, rd_nil]
    | succ m =>
      unfold rd
      by_cases h0 : rest = []
      · rw [if_pos h0, if_pos h0]
      · have hl : 0 < rest.length := List.length_pos_iff.2 h0
        have hs := segLen_pos rest h0
        rw [if_neg h0, if_neg h0]
        rw [ih m out (rest.drop 3) (by simp; omega) (by simp; omega), ih m out (rest.drop 2) (by simp; omega) (by simp; omega), ih m (dropSeg out) (rest.drop 3) (by simp; omega) (by simp; omega),
          ih m _ (rest.drop (segLen rest)) (by simp; omega) (by simp; omega), ih m out [] (by simp) (by simp)]
        by_cases h1 : rest = [47, 46]
        · subst h1
          rw [ih m out [47] (by simp at h ⊢; omega) (by simp at hm ⊢; omega)]
          by_cases h2 : ([47, 46] : Bs) = [47, 46, 46] <;> simp_all
        · by_cases h2 : rest = [47, 46, 46]
          · subst h2
            rw [ih m (dropSeg out) [47] (by simp at h ⊢; omega) (by simp at hm ⊢; omega)]
            simp [h1]
          · simp only [h1, h2, if_false]

/-- what RFC 3986, 5.2.4 makes of 'rest' behind 'out' -/
def RD (out rest : Bs) : Bs := rd rest.length out rest

theorem RD_nil (out : Bs) : RD out [] = out := rd_nil _ _
theorem RD_eq (n : Nat) (out rest : Bs) (h : rest.length ≤ n) : rd n out rest = RD out rest := rd_fuel _ _ _ _ h (Nat.le_refl _)

theorem RD_unfold (out rest : Bs) (h : rest ≠ []) : RD out rest =
    if List.isPrefixOf [46, 46, 47] rest = true then RD out (rest.drop 3)
    else if List.isPrefixOf [46, 47] rest = true then RD out (rest.drop 2)
    else if List.isPrefixOf [47, 46, 47] rest = true then RD out (rest.drop 2)
    else if rest = [47, 46] then RD out [47]
    else if List.isPrefixOf [47, 46, 46, 47] rest = true then RD (dropSeg out) (rest.drop 3)
    else if rest = [47, 46, 46] then RD (dropSeg out) [47]
    else if rest = [46] ∨ rest = [46, 46] then RD out []
    else RD (out ++ rest.take (segLen rest)) (rest.drop (segLen rest)) := by
  have hl : 0 < rest.length := List.length_pos_iff.2 h
  have hs := segLen_pos rest h
  have e : RD out rest = rd (rest.length + 2 + 1) out rest := (RD_eq _ _ _ (by omega)).symm
  rw [e]
  unfold rd
  rw [if_neg h, RD_eq _ _ _ (by simp; omega), RD_eq _ _ _ (by simp; omega), RD_eq _ _ _ (by simp), RD_eq _ _ _ (by simp; omega), RD_eq _ _ _ (by simp), RD_eq _ _ _ (by simp), RD_eq _ _ _ (by simp; omega)]
end Go.Proofs.Qxb6000768a
namespace Go.Proofs.Qxb6000768a
theorem dropWhile_all (xs : Bs) (h : (47 : UInt8) ∉ xs) : xs.dropWhile (fun c => c != 47) = [] := by
  induction xs with
  | nil => rfl
  | cons x a ih =>
    have hx : x ≠ 47 := by rintro rfl; exact h (by simp)
    have ha : (47 : UInt8) ∉ a := fun hh => h (by simp [hh])
    simp [List.dropWhile_cons, hx, ih ha]
theorem dropSeg_none (xs : Bs) (h : (47 : UInt8) ∉ xs) : dropSeg xs = [] := by
  unfold dropSeg
  rw [dropWhile_all _ (by simpa using h)]; rfl
theorem dropWhile_app (a b : Bs) (h : (47 : UInt8) ∉ a) : (a ++ 47 :: b).dropWhile (fun c => c != 47) = 47 :: b := by
  induction a with
  | nil => simp [List.dropWhile_cons]
  | cons x a ih =>
    have hx : x ≠ 47 := by rintro rfl; exact h (by simp)
    have ha : (47 : UInt8) ∉ a := fun hh => h (by simp [hh])
    simp [List.dropWhile_cons, hx, ih ha]
theorem dropSeg_at (a b : Bs) (h : (47 : UInt8) ∉ b) : dropSeg (a ++ 47 :: b) = a := by
  unfold dropSeg
  have e : (a ++ 47 :: b).reverse = b.reverse ++ 47 :: a.reverse := by simp
  rw [e, dropWhile_app _ _ (by simpa using h)]
  simp
theorem dropSeg_take (xs : Bs) : ∃ k, k ≤ xs.length ∧ dropSeg xs = xs.take k := by
  by_cases h : (47 : UInt8) ∈ xs
  · have h' : (47 : UInt8) ∈ xs.reverse := by simpa using h
    obtain ⟨a, b, hab, hn⟩ := List.eq_append_cons_of_mem h'
    have e : xs = b.reverse ++ 47 :: a.reverse := by
      have := congrArg List.reverse hab
      simpa using this
    refine ⟨b.reverse.length, by rw [e]; simp, ?_⟩
    rw [e, dropSeg_at _ _ (by simpa using hn)]
    simp
  · exact ⟨0, Nat.zero_le _, by rw [dropSeg_none xs h]; simp⟩
theorem dropSeg_le (xs : Bs) : (dropSeg xs).length ≤ xs.length := by
  obtain ⟨k, hk, e⟩ := dropSeg_take xs
  rw [e]; simp; omega
theorem dropSeg_eq (xs : Bs) : dropSeg xs = xs.take (dropSeg xs).length := by
  obtain ⟨k, hk, e⟩ := dropSeg_take xs
  have : (dropSeg xs).length = k := by rw [e]; simp; omega
  rw [this, e]
end Go.Proofs.Qxb6000768a
namespace Go.Proofs.Qxb6000768a
theorem isPrefixOf_len (p l : Bs) (h : List.isPrefixOf p l = true) : p.length ≤ l.length := (List.isPrefixOf_iff_prefix.1 h).length_le
theorem RD_A (o l : Bs) (h : List.isPrefixOf [46, 46, 47] l = true) : RD o l = RD o (l.drop 3) := by
  have hn : l ≠ [] := by rintro rfl; simp at h
  rw [RD_unfold o l hn, if_pos h]
theorem RD_B (o l : Bs) (hA : List.isPrefixOf [46, 46, 47] l = false) (h : List.isPrefixOf [46, 47] l = true) : RD o l = RD o (l.drop 2) := by
  have hn : l ≠ [] := by rintro rfl; simp at h
  rw [RD_unfold o l hn, if_neg (by simp [hA]), if_pos h]
theorem RD_C (o l : Bs) (hA : List.isPrefixOf [46, 46, 47] l = false) (hB : List.isPrefixOf [46, 47] l = false) (h : List.isPrefixOf [47, 46, 47] l = true) : RD o l = RD o (l.drop 2) := by
  have hn : l ≠ [] := by rintro rfl; simp at h
  rw [RD_unfold o l hn, if_neg (by simp [hA]), if_neg (by simp [hB]), if_pos h]
theorem RD_D (o : Bs) : RD o [47, 46] = RD o [47] := by
  rw [RD_unfold o _ (by simp)]; simp
theorem RD_E (o l : Bs) (hA : List.isPrefixOf [46, 46, 47] l = false) (hB : List.isPrefixOf [46, 47] l = false) (hC : List.isPrefixOf [47, 46, 47] l = false) (hD : l ≠ [47, 46]) (h : List.isPrefixOf [47, 46, 46, 47] l = true) : RD o l = RD (dropSeg o) (l.drop 3) := by
  have hn : l ≠ [] := by rintro rfl; simp at h
  rw [RD_unfold o l hn, if_neg (by simp [hA]), if_neg (by simp [hB]), if_neg (by simp [hC]), if_neg hD, if_pos h]
theorem RD_F (o : Bs) : RD o [47, 46, 46] = RD (dropSeg o) [47] := by
  rw [RD_unfold o _ (by simp)]; simp
theorem RD_G (o : Bs) : RD o [46] = RD o [] := by
  rw [RD_unfold o _ (by simp)]; simp
theorem RD_G2 (o : Bs) : RD o [46, 46] = RD o [] := by
  rw [RD_unfold o _ (by simp)]; simp
theorem RD_H (o l : Bs) (hn : l ≠ []) (hA : List.isPrefixOf [46, 46, 47] l = false) (hB : List.isPrefixOf [46, 47] l = false) (hC : List.isPrefixOf [47, 46, 47] l = false) (hD : l ≠ [47, 46]) (hE : List.isPrefixOf [47, 46, 46, 47] l = false)
    (hF : l ≠ [47, 46, 46]) (hG : l ≠ [46]) (hG2 : l ≠ [46, 46]) : RD o l = RD (o ++ l.take (segLen l)) (l.drop (segLen l)) := by
  rw [RD_unfold o l hn, if_neg (by simp [hA]), if_neg (by simp [hB]), if_neg (by simp [hC]), if_neg hD, if_neg (by simp [hE]), if_neg hF, if_neg (by simp [hG, hG2])]
end Go.Proofs.Qxb6000768a
namespace Go.Proofs.Qxb6000768a
theorem tw_len : ∀ (l : Bs) (m : Nat), m ≤ l.length → (∀ j, j < m → l[j]? ≠ some 47) → (m = l.length ∨ l[m]? = some 47) → (l.takeWhile (fun c => c != 47)).length = m
  | [], m, h, _, _ => by simp at h; simp [h]
  | x :: l, 0, _, _, h => by
    rcases h with h | h
    · simp at h
    · simp at h; simp [h]
  | x :: l, m + 1, h, hn, he => by
    have hx : x ≠ 47 := by have := hn 0 (by omega); simpa using this
    have := tw_len l m (by simpa using h) (fun j hj => by have := hn (j + 1) (by omega); simpa using this) (by simpa using he)
    simp [hx, this]
theorem segLen_slash (l : Bs) (k : Nat) (h0 : l[0]? = some 47) (h1 : 1 ≤ k) (hk : k ≤ l.length) (hn : ∀ j, 1 ≤ j → j < k → l[j]? ≠ some 47) (he : k = l.length ∨ l[k]? = some 47) : segLen l = k := by
  match l, h0 with
  | x :: t, h0 =>
    simp at h0; subst h0
    have := tw_len t (k - 1) (by simp at hk; omega) (fun j hj => by have := hn (j + 1) (by omega) (by omega); simpa using this) (by
      rcases he with he | he
      · left; simp at he; omega
      · right; obtain ⟨m, rfl⟩ : ∃ m, k = m + 1 := ⟨k - 1, by omega⟩; simpa using he)
    simp [segLen, this]; omega
theorem segLen_plain (l : Bs) (k : Nat) (h0 : l[0]? ≠ some 47) (hk : k ≤ l.length) (hn : ∀ j, j < k → l[j]? ≠ some 47) (he : k = l.length ∨ l[k]? = some 47) : segLen l = k := by
  match l, h0 with
  | [], _ => simp at hk; simp [segLen, hk]
  | x :: t, h0 =>
    have hx : x ≠ 47 := by simpa using h0
    have := tw_len (x :: t) k hk hn he
    simp only [segLen, hx, if_false]
    exact this
end Go.Proofs.Qxb6000768a
