import Derived.Test.Qxb6000880aW7
set_option linter.unusedSimpArgs false
set_option linter.unusedVariables false
namespace Go.Proofs.Qxb6000880a
open Go.RowKit

def mkA (ns vs : List ByteArray) (qs : Bs) (bs : List Bool) : List A := (List.range ns.length).map fun k => ⟨(ns.getD k ⟨#[]⟩).data.toList, (vs.getD k ⟨#[]⟩).data.toList, qs.getD k 0, bs.getD k false⟩
theorem mkA_len (ns vs : List ByteArray) (qs : Bs) (bs : List Bool) : (mkA ns vs qs bs).length = ns.length := by simp [mkA]
theorem mkA_get (ns vs : List ByteArray) (qs : Bs) (bs : List Bool) (k : Nat) (h0 : k < ns.length) (h1 : k < vs.length) (h2 : k < qs.length) (h3 : k < bs.length) (h : k < (mkA ns vs qs bs).length) : (mkA ns vs qs bs)[k] = ⟨ns[k].data.toList, vs[k].data.toList, qs[k], bs[k]⟩ := by
  simp [mkA, List.getD, List.getElem?_eq_getElem h0, List.getElem?_eq_getElem h1, List.getElem?_eq_getElem h2, List.getElem?_eq_getElem h3]
theorem ba_len (s : ByteArray) : s.data.toList.length = s.size := Array.length_toList
theorem ba_mem (s : ByteArray) (c : UInt8) (h : c ∈ s.data.toList) : ∃ t, ∃ h : t < s.size, s[t] = c := by
  obtain ⟨t, ht, e⟩ := List.getElem_of_mem h
  refine ⟨t, by rw [← ba_len]; exact ht, ?_⟩
  show s.data[t] = c
  simpa using e
theorem oks_oka (nm v : ByteArray) (q : UInt8) (b : Bool) (h : OKs nm v q b) : OKA ⟨nm.data.toList, v.data.toList, q, b⟩ := by
  obtain ⟨h1, h2, h3⟩ := h
  refine ⟨?_, ?_, ?_⟩
  · intro e
    apply h1
    rw [← ba_len]
    rw [show nm.data.toList = [] from e]; rfl
  · intro c hc
    obtain ⟨t, ht, rfl⟩ := ba_mem nm c hc
    exact h2 t ht
  · intro hb
    rcases h3 hb with ⟨ha, hv⟩ | ⟨ha, ⟨hp, hv1, hv2⟩, hv⟩
    · refine .inl ⟨ha, ?_⟩
      intro hm
      obtain ⟨t, ht, e⟩ := ba_mem v q hm
      exact hv t ht e
    · have hhd : v.data.toList.head? = some v[0] := by
        rw [List.head?_eq_getElem?, List.getElem?_eq_getElem (by rw [ba_len]; exact hp)]
        simp only [Option.some.injEq]
        show _ = v.data[0]
        simp
      refine .inr ⟨ha, ?_, ?_, ?_, ?_⟩
      · intro e
        have := ba_len v
        rw [show v.data.toList = [] from e] at this
        simp at this
        omega
      · show v.data.toList.head? ≠ _
        rw [hhd]; intro e; exact hv1 (by simpa using e)
      · show v.data.toList.head? ≠ _
        rw [hhd]; intro e; exact hv2 (by simpa using e)
      · intro d hd
        obtain ⟨t, ht, rfl⟩ := ba_mem v d hd
        exact hv t ht
theorem mkA_ok (ns vs : List ByteArray) (qs : Bs) (bs : List Bool) (h : Prem ns vs qs bs) : ∀ a ∈ mkA ns vs qs bs, OKA a := by
  intro a ha
  obtain ⟨k, hk, rfl⟩ := List.getElem_of_mem ha
  obtain ⟨e1, e2, e3, hok⟩ := h
  have h0 : k < ns.length := by rw [mkA_len] at hk; exact hk
  rw [mkA_get ns vs qs bs k h0 (by omega) (by omega) (by omega)]
  exact oks_oka _ _ _ _ (hok k h0 (by omega) (by omega) (by omega))
theorem rends_bound (l : List A) : (rends l).length ≤ 4 * l.length + (l.map fun a => a.nm.length).sum + (l.map fun a => a.val.length).sum := by
  induction l with
  | nil => simp [rends]
  | cons a t ih =>
    have hq : (qq a.q).length ≤ 1 := by unfold qq; split <;> simp
    rw [rends_cons]
    simp only [List.length_append, List.map_cons, List.sum_cons, List.length_cons, rend, tailOf]
    split <;> simp <;> omega
theorem mkA_bound (ns vs : List ByteArray) (qs : Bs) (bs : List Bool) (h : vs.length = ns.length) (h2 : qs.length = ns.length) (h3 : bs.length = ns.length) : (rends (mkA ns vs qs bs)).length ≤ 4 * ns.length + tl ns + tl vs := by
  have hb := rends_bound (mkA ns vs qs bs)
  rw [mkA_len] at hb
  have e1 : ((mkA ns vs qs bs).map fun a => a.nm.length) = ns.map ByteArray.size := by
    apply List.ext_getElem
    · simp [mkA_len]
    · intro k k1 k2
      simp at k2
      rw [List.getElem_map, List.getElem_map, mkA_get ns vs qs bs k k2 (by omega) (by omega) (by omega)]
      exact ba_len _
  have e2 : ((mkA ns vs qs bs).map fun a => a.val.length) = vs.map ByteArray.size := by
    apply List.ext_getElem
    · simp [mkA_len, h]
    · intro k k1 k2
      simp at k2
      rw [List.getElem_map, List.getElem_map, mkA_get ns vs qs bs k (by omega) k2 (by omega) (by omega)]
      exact ba_len _
  rw [e1, e2] at hb
  exact hb
theorem rends_snoc (l : List A) (k : Nat) (h : k < l.length) : rends (l.take (k + 1)) = rends (l.take k) ++ rend l[k] := by
  rw [take_snoc l k h, rends_app, rends_cons]; simp [rends]
theorem rends_take_le (l : List A) (k : Nat) : (rends (l.take k)).length ≤ (rends l).length := by
  conv => rhs; rw [← List.take_append_drop k l, rends_app]
  simp

/-- 'append(tag, s...)', s a string -/
theorem wpList_str {ops : Array Oper} {rest : List Oper} {o : Oper} {a : Act} {Q : Exit → Act → World → Prop} {w : World} (hgd : o.guard = none) (sl x : Operand)
    (ho : o.op = .call { callee := .builtin .append, args := #[sl, x], argTypes := #[22, 9] }) (B : Nat) (v : Value) (xs : Bs) (hs : a.eval sl = v) (hown : OW u8v w B 5 v xs)
    (s : ByteArray) (hx : a.eval x = .string s) (hlen : xs.length + s.size ≤ 100000000) (hB : B ≤ w.heap.size)
    (h : ∀ v' w', OW u8v w' B 5 v' (xs ++ s.data.toList) → Below B w w' → wpList Try.prog ops Q rest (a.put o.dst v') w') : wpList Try.prog ops Q (o :: rest) a w := by
  obtain ⟨i, hi, hz, hs1, hb⟩ := t22.inf
  refine Lib.wpList_append_own_string w hgd sl x 22 9 ho B 5 i Try.underlying22 Try.underlying9 hi hz hs1 hb v xs.length (xs.map u8v) hs hown s hx (by unfold maxLen; omega) (by omega) hB ?_
  intro v' w' h1 h2 _
  refine h v' w' ?_ (own_below hown hB h2)
  unfold OW
  rw [List.map_append, List.length_append, ba_len]
  exact h1
/-- 'append(tag, c)' -/
theorem wpList_chr {ops : Array Oper} {rest : List Oper} {o : Oper} {a : Act} {Q : Exit → Act → World → Prop} {w : World} (hgd : o.guard = none) (sl x : Operand)
    (ho : o.op = .call { callee := .builtin .append, args := #[sl, x], argTypes := #[22, 22] }) (B : Nat) (v : Value) (xs : Bs) (hs : a.eval sl = v) (hown : OW u8v w B 5 v xs)
    (g c : Nat) (u : UInt8) (hx : a.eval x = .slice (some ⟨g, 0, none⟩) 1 c) (hc : w.cell? ⟨g, 0, none⟩ = some (.int .u8 (u.toNat : Int))) (hlen : xs.length + 1 ≤ 100000000) (hB : B ≤ w.heap.size)
    (h : ∀ v' w', OW u8v w' B 5 v' (xs ++ [u]) → Below B w w' → wpList Try.prog ops Q rest (a.put o.dst v') w') : wpList Try.prog ops Q (o :: rest) a w := by
  refine wpList_one (f := u8v) t22 (by decide) hgd sl x ho B v xs hs hown g c u hx hc rfl hlen hB ?_
  intro v' w' h1 h2 _
  exact h v' w' h1 (own_below hown hB h2)
/-- 'append(tag, c, d)' -/
theorem wpList_two {ops : Array Oper} {rest : List Oper} {o : Oper} {a : Act} {Q : Exit → Act → World → Prop} {w : World} (hgd : o.guard = none) (sl x : Operand)
    (ho : o.op = .call { callee := .builtin .append, args := #[sl, x], argTypes := #[22, 22] }) (B : Nat) (v : Value) (xs : Bs) (hs : a.eval sl = v) (hown : OW u8v w B 5 v xs)
    (g c : Nat) (u1 u2 : UInt8) (hx : a.eval x = .slice (some ⟨g, 0, none⟩) 2 c) (hc : ∀ j x, ([u8v u1, u8v u2] : List Value)[j]? = some x → w.cell? ⟨g, j, none⟩ = some x) (hlen : xs.length + 2 ≤ 100000000) (hB : B ≤ w.heap.size)
    (h : ∀ v' w', OW u8v w' B 5 v' (xs ++ [u1, u2]) → Below B w w' → wpList Try.prog ops Q rest (a.put o.dst v') w') : wpList Try.prog ops Q (o :: rest) a w := by
  obtain ⟨i, hi, hz, hs1, hb⟩ := t22.inf
  refine wpList_append_own w hgd sl x 22 ho B 5 i (.int .u8 0) 1 1 Try.underlying22 hi hz hs1 hb rfl (by decide) v xs.length (xs.map u8v) hs hown ⟨g, 0, none⟩ 2 c [u8v u1, u8v u2] hx rfl ?_ ?_ (by unfold maxLen; omega) (by omega) hB ?_
  · intro j y hj
    rw [add0]; exact hc j y hj
  · intro y hy
    simp at hy
    rcases hy with rfl | rfl <;> rfl
  · intro v' w' h1 h2 _
    refine h v' w' ?_ (own_below hown hB h2)
    unfold OW
    rw [List.map_append, List.length_append]
    exact h1
/-- a row of bytes that is not empty -/
theorem ow_tx {w : World} {B : Nat} {v : Value} {xs : Bs} (h : OW u8v w B 5 v xs) (hp : 0 < xs.length) : ∃ g c, v = .slice (some ⟨g, 0, none⟩) xs.length c ∧ xs.length ≤ c ∧ TX w g xs := by
  have hr := h.reads
  rcases h.2 with ⟨rfl, h3⟩ | ⟨g, cap, cur, rfl, hge, _, hcap, _⟩
  · omega
  · refine ⟨g, cap, rfl, hcap, ?_⟩
    obtain ⟨a, c, e, _, h⟩ := hr
    rcases h with ⟨rfl, _⟩ | ⟨x, rfl, h⟩
    · simp at e
    · simp at e
      obtain ⟨rfl, _⟩ := e
      intro i hi
      have := h i hi
      rw [add0] at this
      exact this
end Go.Proofs.Qxb6000880a
