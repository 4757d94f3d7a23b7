import Derived.Test.Qxb6001093aW1
set_option linter.unusedSimpArgs false
set_option linter.unusedVariables false
namespace Go.Proofs.Qxb6001093a
open Go.RowKit

theorem Own.alloc {w : World} {B : Nat} {v : Value} {xs : Bs} (h : Own w B v xs) (o : Obj) : Own (w.alloc o) B v xs := World.ownsRow.alloc h o
theorem own_grown_below {w w' : World} {B : Nat} {v : Value} {xs : Bs} (h : Own w B v xs) (hB : B ≤ w.heap.size) (hg : w.grownBy w' v.ownBlock) : Below B w w' :=
  ⟨hg.os, hg.tape, hg.output, hg.size, fun k hk => hg.block k (by omega) (fun e => by have := (World.ownsRow.lt h k e.symm).1; omega)⟩

/-- 'append(out, b)' -/
theorem wpList_push {ops : Array Oper} {rest : List Oper} {o : Oper} {a : Act} {Q : Exit → Act → World → Prop} {w : World} (hgd : o.guard = none) (s x : Operand)
    (ho : o.op = .call { callee := .builtin .append, args := #[s, x], argTypes := #[22, 22] }) (B : Nat) (v : Value) (xs : Bs) (hs : a.eval s = v) (hown : Own w B v xs)
    (g c : Nat) (b : UInt8) (hx : a.eval x = .slice (some ⟨g, 0, none⟩) 1 c) (hc : w.cell? ⟨g, 0, none⟩ = some (.int .u8 (b.toNat : Int))) (hlen : xs.length + 1 ≤ 100000000) (hB : B ≤ w.heap.size)
    (h : ∀ v' w', Own w' B v' (xs ++ [b]) → Below B w w' → wpList Try.prog ops Q rest (a.put o.dst v') w') : wpList Try.prog ops Q (o :: rest) a w := by
  obtain ⟨i, hi, hz, hsz, hb⟩ := bt.inf
  refine wpList_append_own w hgd s x 22 ho B 5 i (.int .u8 0) 1 1 bt.ut hi hz hsz hb rfl (by decide) v xs.length (bvals xs) hs hown ⟨g, 0, none⟩ 1 c [.int .u8 (b.toNat : Int)] hx rfl ?_ ?_ (by unfold maxLen; omega) (by omega) hB ?_
  · intro j u hj
    match j, hj with
    | 0, hj => simp at hj; subst hj; simpa [Addr.add] using hc
  · intro u hu; simp at hu; subst hu; rfl
  · intro v' w' h1 h2 _
    refine h v' w' ?_ (own_grown_below hown hB h2)
    unfold Own
    rw [bvals_app, List.length_append]
    exact h1

/-- 'append(out, ys...)', ys not nil -/
theorem wpList_cat {ops : Array Oper} {rest : List Oper} {o : Oper} {a : Act} {Q : Exit → Act → World → Prop} {w : World} (hgd : o.guard = none) (s x : Operand)
    (ho : o.op = .call { callee := .builtin .append, args := #[s, x], argTypes := #[22, 22] }) (B : Nat) (v : Value) (xs : Bs) (hs : a.eval s = v) (hown : Own w B v xs)
    (ad : Addr) (c : Nat) (ys : Bs) (hx : a.eval x = .slice (some ad) ys.length c) (hc : ∀ (i : Nat) (h : i < ys.length), w.cell? (ad.add i) = some (.int .u8 (ys[i].toNat : Int))) (hlen : xs.length + ys.length ≤ 100000000) (hB : B ≤ w.heap.size)
    (h : ∀ v' w', Own w' B v' (xs ++ ys) → Below B w w' → wpList Try.prog ops Q rest (a.put o.dst v') w') : wpList Try.prog ops Q (o :: rest) a w := by
  obtain ⟨i, hi, hz, hsz, hb⟩ := bt.inf
  refine wpList_append_own w hgd s x 22 ho B 5 i (.int .u8 0) 1 1 bt.ut hi hz hsz hb rfl (by decide) v xs.length (bvals xs) hs hown ad ys.length c (bvals ys) hx (by rw [bvals_len]; omega) ?_ (bvals_one ys) (by unfold maxLen; omega) (by omega) hB ?_
  · intro j u hj
    have hlt : j < ys.length := by
      rcases Nat.lt_or_ge j ys.length with h' | h'
      · exact h'
      · rw [List.getElem?_eq_none (by rw [bvals_len]; exact h')] at hj; simp at hj
    rw [bvals_get ys j hlt] at hj
    rw [hc j hlt]; exact hj
  · intro v' w' h1 h2 _
    refine h v' w' ?_ (own_grown_below hown hB h2)
    unfold Own
    rw [bvals_app, List.length_append]
    exact h1

theorem Own.made (w : World) (n : Nat) (hn : n ≤ 100000000) : Own (w.alloc (.cells (zeros n) 5)) w.heap.size (.slice (some ⟨w.heap.size, 0, none⟩) 0 n) [] :=
  World.ownsRow_made w (zeros n) n (Nat.le_refl _) (by unfold maxLen; omega) (by rw [zeros_size]; omega)
theorem Row.own {w : World} {g cap : Nat} {xs : Bs} (h : Row w 5 g cap xs) (B : Nat) (hB : B ≤ g) (hc : cap ≤ 100000000) : Own w B (.slice (some ⟨g, 0, none⟩) xs.length cap) xs := by
  obtain ⟨cur, hg, hsz, hle, ht⟩ := h
  exact ⟨by rw [bvals_len]; omega, .inr ⟨g, cap, cur, rfl, hB, hg, hle, by unfold maxLen; omega, by omega, by rw [Nat.mul_one]; exact ht⟩⟩

/-- q's doubled -/
def dbl (q : UInt8) : Bs → Bs
  | [] => []
  | c :: t => if c = q then q :: q :: dbl q t else c :: dbl q t
theorem dbl_app (q : UInt8) (xs ys : Bs) : dbl q (xs ++ ys) = dbl q xs ++ dbl q ys := by
  induction xs with
  | nil => rfl
  | cons c t ih => simp only [List.cons_append, dbl, ih]; split <;> simp
theorem dbl_len (q : UInt8) (xs : Bs) : xs.length ≤ (dbl q xs).length ∧ (dbl q xs).length ≤ 2 * xs.length := by
  induction xs with
  | nil => simp [dbl]
  | cons c t ih => simp only [dbl]; split <;> simp <;> omega
theorem dbl_none (q : UInt8) (xs : Bs) (h : q ∉ xs) : dbl q xs = xs := by
  induction xs with
  | nil => rfl
  | cons c t ih =>
    simp at h
    simp only [dbl]
    rw [if_neg (fun e => h.1 e.symm), ih h.2]
theorem take_snoc (xs : Bs) (k : Nat) (hlt : k < xs.length) : xs.take (k + 1) = xs.take k ++ [xs[k]] := List.take_succ_eq_append_getElem hlt

/-- 'quote' -/
def qt (q : UInt8) (xs : Bs) : Bs := q :: dbl q xs ++ [q]

set_option maxHeartbeats 1000000 in
theorem quote_any (v : Value) (xs : Bs) (q : UInt8) (w : World) (hv : Reads w v xs) (hl : xs.length ≤ 1000000) :
    Calls Try.prog 21 #[v, .int .u8 (q.toNat : Int)] w fun e w' => ∃ v', e = .returned v' ∧ Own w' w.heap.size v' (qt q xs) ∧ Below w.heap.size w w' := by
  obtain ⟨a, c, rfl, hv⟩ := hv
  have hmk := run_make_bytes bt 0 (2 * xs.length + 2) (Nat.zero_le _) (by omega)
  simp only [Int.natCast_zero, show ((2 * xs.length + 2 : Nat) : Int) = 2 * (xs.length : Int) + 2 from by omega] at hmk
  have ho0 := Own.made w (2 * xs.length + 2) (by omega)
  have hb0 : Below w.heap.size w (w.alloc (.cells (zeros (2 * xs.length + 2)) 5)) := (Below.refl _ _).alloc (Nat.le_refl _) _
  go_enter Try.func21, Try.ntmps21
  go_upto_region 2 with fail
  generalize w.alloc (.cells (zeros (2 * xs.length + 2)) 5) = w1 at *
  generalize hB : w.heap.size = B at *
  have HBB : Hid (w.heap.size = B) := hB
  clear hB
  have hB1 : B ≤ w1.heap.size := by have := hb0.size; have := HBB.out; omega
  go_upto_region 3 with (first | (at_builtin; refine wpList_push rfl (.tmp 12) (.tmp 14) rfl B _ [] rfl (ho0.alloc _) w1.heap.size 1 q rfl (by simp) (by simp) (by simp; omega) ?_; intro v2 w2 ho2 hb2))
  have hb3 : Below B w w2 := (hb0.alloc hB1 _).trans hb2
  clear hmk ho0 hb0 hb2 hB1
  have ho2' : Own w2 B v2 (q :: dbl q (xs.take 0)) := ho2
  clear ho2
  have HL : Hid (∀ k, k ≤ xs.length → (q :: dbl q (xs.take k)).length ≤ 3000000) := fun k hk => by
    have := (dbl_len q (xs.take k)).2
    simp at this ⊢
    omega
  go_wp2_with fail
  go_loopg [5, 6] xs.length (fun g o i wx => ∃ k : Nat, k + g = xs.length ∧ i = .int .i64 k ∧ Own wx B o (q :: dbl q (xs.take k)) ∧ Below B w wx)
  case atStart => exact ⟨0, by omega, rfl, ho2', hb3⟩
  case round =>
    obtain ⟨k, hkg, rfl, ho, hb⟩ := hrel
    have hbs := hb.size
    rw [HBB.out] at hbs
    by_cases hlt : k < xs.length
    · obtain ⟨x, rfl, hcx⟩ : ∃ x, a = some x ∧ ∀ (i : Nat) (h : i < xs.length), w.cell? (x.add i) = some (.int .u8 (xs[i].toNat : Int)) := by
        rcases hv with ⟨_, rfl⟩ | h
        · simp at hlt
        · exact h
      have hxk := hcx k hlt
      have hxb : (x.add k).block < B := by rw [← HBB.out]; exact World.block_lt_of_cell? w _ hxk
      have hx1 : wr.cell? (x.add k) = some (.int .u8 (xs[k].toNat : Int)) := by rw [hb.cell hxb]; exact hxk
      have hlk := HL.out k (by omega)
      have hsn := take_snoc xs k hlt
      by_cases hq : xs[k] = q
      · have n1 : ((xs[k].toNat : Int) == (q.toNat : Int)) = true := by rw [hq]; simp
        have HE : Hid (q :: dbl q (xs.take k) ++ [xs[k]] ++ [q] = q :: dbl q (xs.take (k + 1))) := by
          show _ = _
          rw [hsn, dbl_app, hq]; simp [dbl]
        clear hsn hq hv hcx
        generalize xs[k] = cx at *
        go_wp2_with (first | (at_builtin; refine wpList_push rfl (.tmp 22) (.tmp 27) rfl B _ (q :: dbl q (xs.take k)) rfl (ho.alloc _) wr.heap.size 1 cx rfl (by simp) (by omega) (by simp; omega) ?_; intro v3 w3 ho3 hb3; have hx3 : w3.cell? (x.add k) = some (.int .u8 (cx.toNat : Int)) := (by rw [hb3.cell hxb]; simpa [World.cell?_alloc_lt, Nat.lt_of_lt_of_le hxb hbs] using hx1)) | (at_builtin; refine wpList_push rfl (.tmp 35) (.tmp 37) rfl B _ (q :: dbl q (xs.take k) ++ [cx]) rfl (ho3.alloc _) w3.heap.size 1 q rfl (by simp) (by simp at hlk ⊢; omega) (by have := hb3.size; simp at this ⊢; omega) ?_; intro v4 w4 ho4 hb4))
        go_roundg (gk - 1)
        case measure => omega
        case rel =>
          have hb3' := (hb.alloc hbs _).trans hb3
          have hs3 := hb3.size
          exact ⟨k + 1, by omega, by go_num, by rw [← HE.out]; exact ho4, (hb3'.alloc (Nat.le_trans hbs (by simp at hs3; omega)) _).trans hb4⟩
      · have n1 : ((xs[k].toNat : Int) == (q.toNat : Int)) = false := by rw [beq_eq_false_iff_ne]; intro e; exact hq (UInt8.toNat_inj.1 (by omega))
        have HE : Hid (q :: dbl q (xs.take k) ++ [xs[k]] = q :: dbl q (xs.take (k + 1))) := by
          show _ = _
          rw [hsn, dbl_app]; simp [dbl, hq]
        clear hsn hq hv hcx
        generalize xs[k] = cx at *
        go_wp2_with (first | (at_builtin; refine wpList_push rfl (.tmp 22) (.tmp 27) rfl B _ (q :: dbl q (xs.take k)) rfl (ho.alloc _) wr.heap.size 1 cx rfl (by simp) (by omega) (by simp; omega) ?_; intro v3 w3 ho3 hb3; have hx3 : w3.cell? (x.add k) = some (.int .u8 (cx.toNat : Int)) := (by rw [hb3.cell hxb]; simpa [World.cell?_alloc_lt, Nat.lt_of_lt_of_le hxb hbs] using hx1)))
        go_roundg (gk - 1)
        case measure => omega
        case rel =>
          exact ⟨k + 1, by omega, by go_num, by rw [← HE.out]; exact ho3, (hb.alloc hbs _).trans hb3⟩
    · obtain rfl : k = xs.length := by omega
      have hlk := HL.out xs.length (Nat.le_refl _)
      rw [List.take_length] at ho hlk
      go_wp2_with (first | (at_builtin; refine wpList_push rfl (.tmp 39) (.tmp 41) rfl B _ (q :: dbl q xs) rfl (ho.alloc _) wr.heap.size 1 q rfl (by simp) (by omega) (by simp; omega) ?_; intro v5 w5 ho5 hb5))
      go_ret
      exact ⟨v5, rfl, by rw [HBB.out]; exact ho5, by rw [HBB.out]; exact (hb.alloc hbs _).trans hb5⟩
end Go.Proofs.Qxb6001093a
