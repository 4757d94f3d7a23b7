import Derived.Test.Qxb6001093aW2
import Derived.Lib.LazyBuf
set_option linter.unusedSimpArgs false
set_option linter.unusedVariables false
namespace Go.Proofs.Qxb6001093a
open Go.RowKit

theorem Row.push {w : World} {e : TypeId} {g cap : Nat} {xs : Bs} (h : Row w e g cap xs) (hlt : xs.length < cap) (b : UInt8) : Row (w.setCell ⟨g, xs.length, none⟩ (.int .u8 (b.toNat : Int))) e g cap (xs ++ [b]) := by
  obtain ⟨cur, hg, hsz, hle, ht⟩ := h
  refine ⟨cur.setIfInBounds xs.length (.int .u8 (b.toNat : Int)), ?_, by simpa using hsz, by simp; omega, ?_⟩
  · simp [World.setCell, Array.getElem?_modify, hg]
  · rw [bvals_app, ← ht]
    have hl : cur.toList.length = cap := by simpa using hsz
    rw [Array.toList_setIfInBounds]
    apply List.ext_getElem?
    intro j
    simp only [List.length_append, List.length_cons, List.length_nil]
    rcases Nat.lt_trichotomy j xs.length with h1 | h1 | h1
    · rw [List.getElem?_take_of_lt (by omega), List.getElem?_append_left (by simp [hl]; omega), List.getElem?_take_of_lt h1, List.getElem?_set_ne (by omega)]
    · subst h1
      rw [List.getElem?_take_of_lt (by omega), List.getElem?_append_right (by simp [hl]; omega), List.getElem?_set_self (by omega)]
      simp [hl, Nat.min_eq_left hle, bvals]
    · rw [List.getElem?_eq_none (by simp; omega), List.getElem?_eq_none (by simp [bvals]; omega)]
theorem Row.some {w : World} {e : TypeId} {g cap : Nat} {xs : Bs} (h : Row w e g cap xs) (j : Nat) (hj : j < cap) : ∃ v, w.cell? ⟨g, j, none⟩ = some v := by
  obtain ⟨cur, hg, hsz, hle, ht⟩ := h
  exact ⟨cur[j]'(by omega), by simp [World.cell?, hg, show j < cur.size by omega]⟩

/-- a slice of bytes that came in -/
def Arg (w : World) (v : Value) (xs : Bs) : Prop :=
  (v = .slice none 0 0 ∧ xs = []) ∨ ∃ x c, v = .slice (some x) xs.length c ∧ ∀ (i : Nat) (h : i < xs.length), w.cell? (x.add i) = some (.int .u8 (xs[i].toNat : Int))
theorem Arg.reads {w : World} {v : Value} {xs : Bs} (h : Arg w v xs) : Reads w v xs := by
  rcases h with ⟨rfl, rfl⟩ | ⟨x, c, rfl, h⟩
  · exact ⟨none, 0, rfl, .inl ⟨rfl, rfl⟩⟩
  · exact ⟨some x, c, rfl, .inr ⟨x, rfl, h⟩⟩
theorem Own.arg {w : World} {B : Nat} {v : Value} {xs : Bs} (h : Own w B v xs) : Arg w v xs := by
  have hr := h.reads
  obtain ⟨h1, h2⟩ := h
  rcases h2 with ⟨rfl, h3⟩ | ⟨g, cap, cur, rfl, _⟩
  · exact .inl ⟨rfl, List.eq_nil_of_length_eq_zero h3⟩
  · obtain ⟨a, c, e, h⟩ := hr
    rcases h with ⟨rfl, _⟩ | ⟨x, rfl, h⟩
    · simp at e
    · exact .inr ⟨x, c, e, h⟩
theorem Arg.below {w w' : World} {v : Value} {xs : Bs} (h : Arg w v xs) (hb : Below w.heap.size w w') : Arg w' v xs := by
  rcases h with h | ⟨x, c, rfl, h⟩
  · exact .inl h
  · refine .inr ⟨x, c, rfl, fun i hi => ?_⟩
    have := h i hi
    rw [hb.cell (World.block_lt_of_cell? w _ this)]
    exact this

theorem Own.nil (w : World) (B : Nat) : Own w B (.slice none 0 0) [] := World.ownsRow_nil w B 5 1

/-- nil, or a row that is full -/
def Full (w : World) (v : Value) (xs : Bs) : Prop := (v = .slice none 0 0 ∧ xs = []) ∨ ∃ g, v = .slice (some ⟨g, 0, none⟩) xs.length xs.length ∧ Row w 5 g xs.length xs
theorem Full.below {w w' : World} {v : Value} {xs : Bs} (h : Full w v xs) (hb : Below w.heap.size w w') : Full w' v xs := by
  rcases h with h | ⟨g, rfl, h⟩
  · exact .inl h
  · exact .inr ⟨g, rfl, h.below hb h.lt⟩

theorem clone_any (v : Value) (xs : Bs) (w : World) (hv : Arg w v xs) (hl : xs.length ≤ 1000000) :
    Calls Try.prog 12 #[v] w fun e w' => ∃ v', e = .returned v' ∧ Own w' w.heap.size v' xs ∧ Full w' v' xs ∧ Below w.heap.size w w' := by
  rcases hv with ⟨rfl, rfl⟩ | ⟨x, c, rfl, hc⟩
  · have hnl : ∀ w, (binOp .eql 22 (.slice none 0 0) (.slice none 0 0)).run Try.prog w = .ok (.bool true) w := fun w => by simpa using Go.run_eql_slice_nil (P := Try.prog) w 22 5 none 0 0 Try.underlying22
    go_enter Try.func12, Try.ntmps12
    go_wp2
    go_ret
    exact ⟨_, rfl, Own.nil _ _, .inl ⟨rfl, rfl⟩, Below.refl _ _⟩
  · have hnl : ∀ w, (binOp .eql 22 (.slice (some x) xs.length c) (.slice none 0 0)).run Try.prog w = .ok (.bool false) w := fun w => by simpa using Go.run_eql_slice_nil (P := Try.prog) w 22 5 (some x) xs.length c Try.underlying22
    have hmk := run_make_bytes bt xs.length xs.length (Nat.le_refl _) (by omega)
    go_enter Try.func12, Try.ntmps12
    go_wp2
    generalize hB : w.heap.size = B at *
    have HBB : Hid (w.heap.size = B) := hB
    have hr0 : Row (w.alloc (.cells (zeros xs.length) 5)) 5 B xs.length [] := by rw [← hB]; exact Row.made w 5 xs.length 0 (Nat.zero_le _)
    have hb0 : Below B w (w.alloc (.cells (zeros xs.length) 5)) := by rw [← hB]; exact (Below.refl _ _).alloc (Nat.le_refl _) _
    clear hB
    generalize w.alloc (.cells (zeros xs.length) 5) = w1 at *
    go_loopg [4] xs.length (fun g i wx => ∃ k : Nat, k + g = xs.length ∧ i = .int .i64 k ∧ Row wx 5 B xs.length (xs.take k) ∧ Below B w wx)
    case atStart => exact ⟨0, by omega, rfl, by simpa using hr0, hb0⟩
    case round =>
      obtain ⟨k, hkg, rfl, hr, hb⟩ := hrel
      by_cases hlt : k < xs.length
      · have hlk : (xs.take k).length = k := by simp; omega
        have hxk := hc k hlt
        have hxb : (x.add k).block < B := by rw [← HBB.out]; exact World.block_lt_of_cell? w _ hxk
        have hx1 : wr.cell? (x.add k) = some (.int .u8 (xs[k].toNat : Int)) := by rw [hb.cell hxb]; exact hxk
        obtain ⟨v0, hv0⟩ := hr.some k hlt
        have hth := hr.thaw k
        have hpush := hr.push (by omega) xs[k]
        rw [hlk, ← take_snoc xs k hlt] at hpush
        have hbn := hb.setCell (p := ⟨B, k, none⟩) (Nat.le_refl _) (.int .u8 (xs[k].toNat : Int))
        go_wp2
        go_roundg (gk - 1)
        case measure => omega
        case rel => exact ⟨k + 1, by omega, by go_num, hpush, hbn⟩
      · obtain rfl : k = xs.length := by omega
        rw [List.take_length] at hr
        go_wp2
        go_ret
        exact ⟨_, rfl, by rw [HBB.out]; exact hr.own B (Nat.le_refl _) (by omega), .inr ⟨B, rfl, hr⟩, by rw [HBB.out]; exact hb⟩

theorem quoter_any (b : Bool) (w : World) : Calls Try.prog 20 #[.bool b] w fun e w' => e = .returned (.int .u8 ((if b then 96 else 34 : UInt8).toNat : Int)) ∧ w' = w := by
  cases b
  all_goals
    go_enter Try.func20, Try.ntmps20
    go_wp2
    go_ret
    exact ⟨rfl, rfl⟩

set_option maxHeartbeats 1000000 in
theorem concat_any (v1 v2 : Value) (xs ys : Bs) (w : World) (h1 : Arg w v1 xs) (h2 : Arg w v2 ys) (hl1 : xs.length ≤ 10000000) (hl2 : ys.length ≤ 10000000) :
    Calls Try.prog 18 #[v1, v2] w fun e w' => ∃ v', e = .returned v' ∧ Own w' w.heap.size v' (xs ++ ys) ∧ Below w.heap.size w w' := by
  have hlen1 : ∃ a1 c1, v1 = .slice a1 xs.length c1 := by
    rcases h1 with ⟨rfl, rfl⟩ | ⟨x, c, rfl, h⟩
    · exact ⟨none, 0, rfl⟩
    · exact ⟨_, _, rfl⟩
  have hlen2 : ∃ a2 c2, v2 = .slice a2 ys.length c2 := by
    rcases h2 with ⟨rfl, rfl⟩ | ⟨x, c, rfl, h⟩
    · exact ⟨none, 0, rfl⟩
    · exact ⟨_, _, rfl⟩
  obtain ⟨a1, c1, e1⟩ := hlen1
  obtain ⟨a2, c2, e2⟩ := hlen2
  have hmk := run_make_bytes bt 0 (xs.length + ys.length) (Nat.zero_le _) (by omega)
  simp only [Int.natCast_zero, show ((xs.length + ys.length : Nat) : Int) = (xs.length : Int) + (ys.length : Int) from by omega] at hmk
  have ho0 := Own.made w (xs.length + ys.length) (by omega)
  have hb0 : Below w.heap.size w (w.alloc (.cells (zeros (xs.length + ys.length)) 5)) := (Below.refl _ _).alloc (Nat.le_refl _) _
  obtain ⟨i, hi, hz, hsz, hbb⟩ := bt.inf
  subst e1 e2
  go_enter Try.func18, Try.ntmps18
  go_upto_region 2 with fail
  have hW : Below w.heap.size w (w.alloc (.cells (zeros (xs.length + ys.length)) 5)) := hb0
  have h1' := h1.below hb0
  have h2' := h2.below hb0
  clear h1 hmk
  generalize w.alloc (.cells (zeros (xs.length + ys.length)) 5) = w1 at *
  generalize hB : w.heap.size = B at *
  have HBB : Hid (w.heap.size = B) := hB
  clear hB
  have hB1 : B ≤ w1.heap.size := by have := hb0.size; have := HBB.out; omega
  have fin : ∀ v' w', Own w' B v' (xs ++ ys) → Below B w w' → (∃ v'', Ending.returned v' = .returned v'' ∧ Own w' w.heap.size v'' (xs ++ ys) ∧ Below w.heap.size w w') := fun v' w' h1 h2 => ⟨v', rfl, by rw [HBB.out]; exact h1, by rw [HBB.out]; exact h2⟩
  have FIN : Hid (∀ v' w', Own w' B v' (xs ++ ys) → Below B w w' → (∃ v'', Ending.returned v' = .returned v'' ∧ Own w' w.heap.size v'' (xs ++ ys) ∧ Below w.heap.size w w')) := fin
  clear fin
  have HC2 : Hid (∀ w', Below B w1 w' → Arg w' (.slice a2 ys.length c2) ys) := by
    intro w' hb
    rcases h2 with h | ⟨x, c, e, h⟩
    · exact .inl h
    · refine .inr ⟨x, c, e, fun i hi => ?_⟩
      have hw := h i hi
      have hlt : (x.add i).block < B := by rw [← HBB.out]; exact World.block_lt_of_cell? w _ hw
      rw [(hb0.trans hb).cell hlt]
      exact hw
  rcases h1' with ⟨e1, h1n⟩ | ⟨x1, d1, e1, hc1⟩
  · simp at e1
    obtain ⟨rfl, _, rfl⟩ := e1
    subst h1n
    simp only [List.length_nil, Nat.zero_add] at ho0
    rcases HC2.out w1 (Below.refl _ _) with ⟨e2, h2n⟩ | ⟨x2, d2, e2, hc2⟩
    · simp at e2
      obtain ⟨rfl, _, rfl⟩ := e2
      subst h2n
      go_wp2_with (first | (at_builtin; refine wpList_append_own_none rfl (.tmp 12) (.tmp 13) 22 rfl B 5 i 1 bt.ut hi _ _ _ rfl ho0 rfl ?_) | (at_builtin; refine wpList_append_own_none rfl (.tmp 15) (.tmp 16) 22 rfl B 5 i 1 bt.ut hi _ _ _ rfl ho0 rfl ?_))
      go_ret
      exact FIN.out _ _ ho0 hb0
    · simp at e2
      obtain ⟨rfl, rfl⟩ := e2
      go_wp2_with (first | (at_builtin; refine wpList_append_own_none rfl (.tmp 12) (.tmp 13) 22 rfl B 5 i 1 bt.ut hi _ _ _ rfl ho0 rfl ?_) | (at_builtin; refine wpList_cat rfl (.tmp 15) (.tmp 16) rfl B _ [] rfl ho0 x2 c2 ys rfl hc2 (by simp; omega) hB1 ?_; intro v5 w5 ho5 hb5))
      go_ret
      exact FIN.out _ _ ho5 (hb0.trans hb5)
  · simp at e1
    obtain ⟨rfl, rfl⟩ := e1
    go_upto_region 3 with (first | (at_builtin; refine wpList_cat rfl (.tmp 12) (.tmp 13) rfl B _ [] rfl ho0 x1 c1 xs rfl hc1 (by simp; omega) hB1 ?_; intro v4 w4 ho4 hb4))
    rw [List.nil_append] at ho4
    have hB4 : B ≤ w4.heap.size := Nat.le_trans hB1 hb4.size
    rcases HC2.out w4 hb4 with ⟨e2, h2n⟩ | ⟨x2, d2, e2, hc2⟩
    · simp at e2
      obtain ⟨rfl, _, rfl⟩ := e2
      subst h2n
      rw [← List.append_nil xs] at ho4
      go_wp2_with (first | (at_builtin; refine wpList_append_own_none rfl (.tmp 15) (.tmp 16) 22 rfl B 5 i 1 bt.ut hi _ _ _ rfl ho4 rfl ?_))
      go_ret
      simpa using FIN.out _ _ ho4 (hb0.trans hb4)
    · simp at e2
      obtain ⟨rfl, rfl⟩ := e2
      go_wp2_with (first | (at_builtin; refine wpList_cat rfl (.tmp 15) (.tmp 16) rfl B _ xs rfl ho4 x2 c2 ys rfl hc2 (by omega) hB4 ?_; intro v5 w5 ho5 hb5))
      go_ret
      exact FIN.out _ _ ho5 ((hb0.trans hb4).trans hb5)
end Go.Proofs.Qxb6001093a
