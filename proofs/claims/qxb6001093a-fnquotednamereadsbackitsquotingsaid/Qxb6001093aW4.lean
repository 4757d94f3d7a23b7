import Derived.Test.Qxb6001093aW3
import Derived.Deep.RegionLaw
import Derived.BigQuiet
import Derived.BigRegion
set_option linter.unusedSimpArgs false
set_option linter.unusedVariables false
namespace Go.Proofs.Qxb6001093a
open Go.RowKit

theorem lt_of_some {α : Type} {xs : Array α} {b : Nat} {x : α} (h : xs[b]? = some x) : b < xs.size := by
  rcases Nat.lt_or_ge b xs.size with h' | h'
  · exact h'
  · rw [Array.getElem?_eq_none h'] at h; simp at h
/-- a block of cells -/
def Blk (w : World) (b : Nat) (cs : Array Value) (T : TypeId) : Prop := w.heap[b]? = some (.cells cs T (0, 0))
theorem Blk.lt {w : World} {b : Nat} {cs : Array Value} {T : TypeId} (h : Blk w b cs T) : b < w.heap.size := lt_of_some h
theorem Blk.cell {w : World} {b : Nat} {cs : Array Value} {T : TypeId} (h : Blk w b cs T) (j : Nat) : w.cell? ⟨b, j, none⟩ = cs[j]? := by
  unfold Blk at h; simp [World.cell?, h]
theorem Blk.thaw {w : World} {b : Nat} {cs : Array Value} {T : TypeId} (h : Blk w b cs T) (j : Nat) : w.frozen? ⟨b, j, none⟩ = false := by
  unfold Blk at h; simp [World.frozen?, h]
theorem Blk.below {w w' : World} {b B : Nat} {cs : Array Value} {T : TypeId} (h : Blk w b cs T) (hb : Below B w w') (hB : b < B) : Blk w' b cs T := by
  unfold Blk; rw [hb.block b hB]; exact h
theorem Blk.set {w : World} {b : Nat} {cs : Array Value} {T : TypeId} (h : Blk w b cs T) (j : Nat) (v : Value) : Blk (w.setCell ⟨b, j, none⟩ v) b (cs.setIfInBounds j v) T := by
  unfold Blk at h ⊢
  simp [World.setCell, Array.getElem?_modify, h]
theorem Blk.setOther {w : World} {b : Nat} {cs : Array Value} {T : TypeId} (h : Blk w b cs T) (a : Addr) (ha : a.block ≠ b) (v : Value) : Blk (w.setCell a v) b cs T := by
  unfold Blk at h ⊢
  rw [Below.heap_setCell _ _ _ _ (Ne.symm ha)]; exact h
theorem Blk.alloc {w : World} {b : Nat} {cs : Array Value} {T : TypeId} (h : Blk w b cs T) (o : Obj) : Blk (w.alloc o) b cs T := by
  unfold Blk; rw [Below.heap_alloc _ _ _ h.lt]; exact h
theorem Blk.new (w : World) (cs : Array Value) (T : TypeId) : Blk (w.alloc (.cells cs T)) w.heap.size cs T := (MapKept.heap_alloc w _).1
theorem Blk.drew {w : World} {b : Nat} {cs : Array Value} {T : TypeId} (h : Blk w b cs T) : Blk w.drew b cs T := h

/-- what is appended to: a row of the loop's own, or a full row -/
def Src (w : World) (N : Nat) (v : Value) (xs : Bs) : Prop := Own w N v xs ∨ Full w v xs
theorem Src.alloc {w : World} {N : Nat} {v : Value} {xs : Bs} (h : Src w N v xs) (o : Obj) : Src (w.alloc o) N v xs := by
  rcases h with h | h
  · exact .inl (h.alloc o)
  · refine .inr (h.below ((Below.refl _ _).alloc (Nat.le_refl _) o))
theorem Src.len {w : World} {N : Nat} {v : Value} {xs : Bs} (h : Src w N v xs) : ∃ a c, v = .slice a xs.length c := by
  rcases h with h | h
  · obtain ⟨a, c, e, _⟩ := h.reads
    exact ⟨a, c, e⟩
  · rcases h with ⟨rfl, rfl⟩ | ⟨g, rfl, h⟩
    · exact ⟨none, 0, rfl⟩
    · exact ⟨_, _, rfl⟩

theorem run_push {w : World} {N : Nat} {v : Value} {xs : Bs} (ty : TypeId) (hsrc : Src w N v xs) (hN : N ≤ w.heap.size) (g c : Nat) (b : UInt8) (hc : w.cell? ⟨g, 0, none⟩ = some (.int .u8 (b.toNat : Int))) (hlen : xs.length + 1 ≤ 100000000) :
    ∃ v' w', (Builtin.append_ #[22, 22] ty #[v, .slice (some ⟨g, 0, none⟩) 1 c]).run Try.prog w = .ok v' w' ∧ Own w' N v' (xs ++ [b]) ∧ Below N w w' := by
  obtain ⟨i, hi, hz, hsz, hb⟩ := bt.inf
  have hnews : ∀ j u, ([.int .u8 (b.toNat : Int)] : List Value)[j]? = some u → w.cell? ((⟨g, 0, none⟩ : Addr).add j) = some u := by
    intro j u hj
    match j, hj with
    | 0, hj => simp at hj; subst hj; simpa [Addr.add] using hc
  have hone : ∀ u ∈ ([.int .u8 (b.toNat : Int)] : List Value), u.oneCell' = true := by intro u hu; simp at hu; subst hu; rfl
  have nilcase : ∀ h0 : xs = [], v = .slice none 0 0 → ∃ v' w', (Builtin.append_ #[22, 22] ty #[v, .slice (some ⟨g, 0, none⟩) 1 c]).run Try.prog w = .ok v' w' ∧ Own w' N v' (xs ++ [b]) ∧ Below N w w' := by
    rintro rfl rfl
    obtain ⟨v', w', hr, h1, h2, _⟩ := run_append_own (P := Try.prog) w N 22 ty 5 i (.int .u8 0) 1 1 bt.ut hi hz hsz hb rfl (by decide) (.slice none 0 0) 0 [] (World.ownsRow_nil w N 5 1) ⟨g, 0, none⟩ 1 c [.int .u8 (b.toNat : Int)] rfl hnews hone (by unfold maxLen; omega) (by omega) hN
    exact ⟨v', w', hr, h1, ⟨h2.os, h2.tape, h2.output, h2.size, fun k hk => h2.block k (by omega) (by simp [Value.ownBlock])⟩⟩
  rcases hsrc with hown | ⟨rfl, h0⟩ | ⟨g1, rfl, hrow⟩
  · obtain ⟨v', w', hr, h1, h2, _⟩ := run_append_own (P := Try.prog) w N 22 ty 5 i (.int .u8 0) 1 1 bt.ut hi hz hsz hb rfl (by decide) v xs.length (bvals xs) hown ⟨g, 0, none⟩ 1 c [.int .u8 (b.toNat : Int)] rfl hnews hone (by unfold maxLen; omega) (by omega) hN
    refine ⟨v', w', hr, ?_, own_grown_below hown hN h2⟩
    unfold Own
    rw [bvals_app, List.length_append]
    exact h1
  · exact nilcase h0 rfl
  · have hown : Own w g1 (.slice (some ⟨g1, 0, none⟩) xs.length xs.length) xs := hrow.own g1 (Nat.le_refl _) (by omega)
    have hr2 := run_append_grow (P := Try.prog) w 22 ty 5 i (.int .u8 0) bt.ut hi hz ⟨g1, 0, none⟩ xs.length xs.length (bvals xs) (by rw [hsz, bvals_len]; omega) (World.ownsRow.cells (g := g1) hown rfl) ⟨g, 0, none⟩ 1 c [.int .u8 (b.toNat : Int)] (by rw [hsz]; rfl) hnews (by omega) (by omega) (growslice_fits (by omega) (by rw [hb]; omega))
    have hge := grownCap_ge w (xs.length + 1) xs.length 5
    have hcm : grownCap w (xs.length + 1) xs.length 5 ≤ maxLen := grownCap_le_maxLen w (xs.length + 1) xs.length 5 (by unfold maxLen; omega)
    refine ⟨_, _, hr2, ?_, ⟨rfl, rfl, rfl, by simp, fun k hk => Below.heap_alloc w.drew _ k (Nat.lt_of_lt_of_le hk hN)⟩⟩
    refine ⟨by simp [bvals], .inr ⟨w.heap.size, _, _, by simp, hN, Go.heap_alloc_new w.drew _, by simpa using hge, hcm, ?_, ?_⟩⟩
    · simp [size_zeroCells, bvals]
      have : (Value.int IntKind.u8 0).cells.size = 1 := rfl
      rw [this]
      omega
    · simp only [Array.toList_append, List.append_assoc]
      rw [bvals_app, ← List.append_assoc]
      have : (xs ++ [b]).length * 1 = (bvals xs ++ [Value.int .u8 (b.toNat : Int)]).length := by simp [bvals]
      rw [this]
      exact List.take_left

/-- 'append(x, b)' as one step of a region that draws -/
theorem step_push {ops : Array Oper} {o : Oper} {a : Act} {w : World} {K : Act → World → Prop} {Q : Exit → Act → World → Prop} {E : Prop}
    (hg : o.guard = none) (s x : Operand) (hop : o.op = Op.call { callee := Callee.builtin Builtin.append, args := #[s, x], argTypes := #[22, 22] })
    (N : Nat) (v : Value) (xs : Bs) (hs : a.eval s = v) (hsrc : Src w N v xs) (hN : N ≤ w.heap.size)
    (g c : Nat) (b : UInt8) (hx : a.eval x = .slice (some ⟨g, 0, none⟩) 1 c) (hc : w.cell? ⟨g, 0, none⟩ = some (.int .u8 (b.toNat : Int))) (hlen : xs.length + 1 ≤ 100000000)
    (hK : ∀ v' w', Own w' N v' (xs ++ [b]) → Below N w w' → K (a.put o.dst v') w') :
    if Region.wanted o (yielded ops a.tmps) = true then Oper.wp Try.prog o a w K Q else E := by
  have hw : Region.wanted o (yielded ops a.tmps) = true := by simp [Region.wanted, hg]
  rw [if_pos hw]
  obtain ⟨v', w', hrun, h1, h2⟩ := run_push o.type hsrc hN g c b hc hlen
  unfold Oper.wp
  simp [execOp, hop, resolve, invoke, builtin, hs, hx, hrun, Result.andThen]
  exact hK v' w' h1 h2

/-! ### plain: where the scan stands -/
theorem dbl_take_len (q : UInt8) (xs : Bs) (k : Nat) : (dbl q (xs.take k)).length ≤ (dbl q xs).length := by
  have : dbl q xs = dbl q (xs.take k) ++ dbl q (xs.drop k) := by rw [← dbl_app, List.take_append_drop]
  rw [this]; simp
/-- the text behind the opening quote and k bytes of the name -/
theorem text_at (q : UInt8) (name t : Bs) (k : Nat) : (qt q name ++ t).drop (1 + (dbl q (name.take k)).length) = dbl q (name.drop k) ++ q :: t := by
  have h : qt q name ++ t = (q :: dbl q (name.take k)) ++ (dbl q (name.drop k) ++ q :: t) := by
    unfold qt
    have : dbl q name = dbl q (name.take k) ++ dbl q (name.drop k) := by rw [← dbl_app, List.take_append_drop]
    rw [this]; simp
  rw [h, show 1 + (dbl q (name.take k)).length = (q :: dbl q (name.take k)).length by simp; omega, List.drop_left]
end Go.Proofs.Qxb6001093a
