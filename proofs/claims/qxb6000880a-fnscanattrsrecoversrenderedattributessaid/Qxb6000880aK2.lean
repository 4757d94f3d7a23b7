import Derived.Test.Qxb6000880aW5
set_option linter.unusedSimpArgs false
set_option linter.unusedVariables false
namespace Go.Proofs.Qxb6000880a
open Go.RowKit

theorem lt_of_some {α : Type} {xs : Array α} {b : Nat} {x : α} (h : xs[b]? = some x) : b < xs.size := by
  rcases Nat.lt_or_ge b xs.size with h' | h'
  · exact h'
  · rw [Array.getElem?_eq_none h'] at h; simp at h
/-- a block of cells -/
def Blk (w : World) (b : Nat) (cs : Array Value) (T : TypeId) : Prop := w.heap[b]? = some (.cells cs T (0, 0))
theorem Blk.lt {w : World} {b : Nat} {cs : Array Value} {T : TypeId} (h : Blk w b cs T) : b < w.heap.size := lt_of_some h
theorem Blk.cell {w : World} {b : Nat} {cs : Array Value} {T : TypeId} (h : Blk w b cs T) (j : Nat) : w.cell? ⟨b, j, none⟩ = cs[j]? := by
  unfold Blk at h; simp [World.cell?, h]
theorem Blk.thaw {w : World} {b : Nat} {cs : Array Value} {T : TypeId} (h : Blk w b cs T) (j : Nat) : w.frozen? ⟨b, j, none⟩ = false := by
  unfold Blk at h; simp [World.frozen?, h]
theorem Blk.below {w w' : World} {b B : Nat} {cs : Array Value} {T : TypeId} (h : Blk w b cs T) (hb : Below B w w') (hB : b < B) : Blk w' b cs T := by
  unfold Blk; rw [hb.block b hB]; exact h
theorem Blk.set {w : World} {b : Nat} {cs : Array Value} {T : TypeId} (h : Blk w b cs T) (j : Nat) (v : Value) : Blk (w.setCell ⟨b, j, none⟩ v) b (cs.setIfInBounds j v) T := by
  unfold Blk at h ⊢
  simp [World.setCell, Array.getElem?_modify, h]
theorem Blk.setOther {w : World} {b : Nat} {cs : Array Value} {T : TypeId} (h : Blk w b cs T) (a : Addr) (ha : a.block ≠ b) (v : Value) : Blk (w.setCell a v) b cs T := by
  unfold Blk at h ⊢
  rw [Below.heap_setCell _ _ _ _ (Ne.symm ha)]; exact h
theorem Blk.alloc {w : World} {b : Nat} {cs : Array Value} {T : TypeId} (h : Blk w b cs T) (o : Obj) : Blk (w.alloc o) b cs T := by
  unfold Blk; rw [Below.heap_alloc _ _ _ h.lt]; exact h
theorem Blk.new (w : World) (cs : Array Value) (T : TypeId) : Blk (w.alloc (.cells cs T)) w.heap.size cs T := (MapKept.heap_alloc w _).1
theorem Blk.drew {w : World} {b : Nat} {cs : Array Value} {T : TypeId} (h : Blk w b cs T) : Blk w.drew b cs T := h

theorem run_one {P : Program} {t e : TypeId} {z : Value} {b : Nat} (hT : T1 P t e z b) (hb : b ≤ 24) {w : World} {B : Nat} {v : Value} {n : Nat} {xs : List Value} (ty : TypeId) (hown : w.ownsRow B e 1 v n xs) (hB : B ≤ w.heap.size)
    (g c : Nat) (u : Value) (hc : w.cell? ⟨g, 0, none⟩ = some u) (h1 : u.oneCell' = true) (hlen : n + 1 ≤ 100000000) :
    ∃ v' w', (Builtin.append_ #[t, t] ty #[v, .slice (some ⟨g, 0, none⟩) 1 c]).run P w = .ok v' w' ∧ w'.ownsRow B e 1 v' (n + 1) (xs ++ [u]) ∧ w.grownBy w' v.ownBlock ∧ (v'.ownBlock = v.ownBlock ∨ ∃ k, v'.ownBlock = some k ∧ w.heap.size ≤ k) := by
  obtain ⟨i, hi, hz, hs, hb'⟩ := hT.inf
  have hzs : z.cells.size = 1 := by rw [hT.zc]; rfl
  have hnews : ∀ j x, ([u] : List Value)[j]? = some x → w.cell? ((⟨g, 0, none⟩ : Addr).add j) = some x := by
    intro j x hj
    match j, hj with
    | 0, hj => simp at hj; subst hj; simpa [Addr.add] using hc
  have hone : ∀ x ∈ ([u] : List Value), x.oneCell' = true := by intro x hx; simp at hx; subst hx; exact h1
  have hbytes : (n + 1) * b ≤ 140737488355328 := by
    have : (n + 1) * b ≤ (n + 1) * 24 := Nat.mul_le_mul_left _ hb
    omega
  obtain ⟨v', w', hr, ho, hg, _⟩ := run_append_own (P := P) w B t ty e i z 1 b hT.ut hi hz hs hb' hzs (by decide) v n xs hown ⟨g, 0, none⟩ 1 c [u] rfl hnews hone (by unfold maxLen; omega) hbytes hB
  refine ⟨v', w', hr, ho, hg, ?_⟩
  rcases hown.2 with ⟨rfl, rfl⟩ | ⟨g1, cap, cur, rfl, hbg, hgg, hnc, hcm, hcs, htake⟩
  · have hr2 := run_append_nil (P := P) w t ty e i z hT.ut hi hz ⟨g, 0, none⟩ 1 c [u] (by rw [hs]; rfl) hnews (by omega) (by omega) (by rw [hb']; omega)
    rw [hr] at hr2
    injection hr2 with h1 h2
    right
    rw [h1]
    exact ⟨_, rfl, Nat.le_refl _⟩
  · by_cases hroom : n + 1 ≤ cap
    · have hr2 := run_append_room (P := P) w t ty e i hT.ut hi g1 n cap cur hgg ⟨g, 0, none⟩ 1 c [u] (by rw [hs]; rfl) hnews hone hroom (by rw [hs]; simp; omega)
      rw [hr] at hr2
      injection hr2 with h1 h2
      left
      rw [h1]; rfl
    · have hr2 := run_append_grow (P := P) w t ty e i z hT.ut hi hz ⟨g1, 0, none⟩ n cap xs (by rw [hs]; exact hown.1) (World.ownsRow.cells (g := g1) hown rfl) ⟨g, 0, none⟩ 1 c [u] (by rw [hs]; rfl) hnews (by omega) (by omega) (growslice_fits (by omega) (by rw [hb']; exact hbytes))
      rw [hr] at hr2
      injection hr2 with h1 h2
      right
      rw [h1]
      exact ⟨_, rfl, Nat.le_refl _⟩

/-- 'append(row, x)', elements of one cell -/
theorem wpList_one {α : Type} {f : α → Value} {t e : TypeId} {z : Value} {b : Nat} (hT : T1 Try.prog t e z b) (hb : b ≤ 24) {ops : Array Oper} {rest : List Oper} {o : Oper} {a : Act} {Q : Exit → Act → World → Prop} {w : World} (hgd : o.guard = none) (s x : Operand)
    (ho : o.op = .call { callee := .builtin .append, args := #[s, x], argTypes := #[t, t] }) (B : Nat) (v : Value) (xs : List α) (hs : a.eval s = v) (hown : OW f w B e v xs)
    (g c : Nat) (u : α) (hx : a.eval x = .slice (some ⟨g, 0, none⟩) 1 c) (hc : w.cell? ⟨g, 0, none⟩ = some (f u)) (h1 : (f u).oneCell' = true) (hlen : xs.length + 1 ≤ 100000000) (hB : B ≤ w.heap.size)
    (h : ∀ v' w', OW f w' B e v' (xs ++ [u]) → w.grownBy w' v.ownBlock → (v'.ownBlock = v.ownBlock ∨ ∃ k, v'.ownBlock = some k ∧ w.heap.size ≤ k) → wpList Try.prog ops Q rest (a.put o.dst v') w') : wpList Try.prog ops Q (o :: rest) a w := by
  refine wpList_plain hgd fun K hK => ?_
  obtain ⟨v', w', hr, h2, h3, h4⟩ := run_one (ty := o.type) hT hb hown hB g c (f u) hc h1 hlen
  unfold Oper.wp execOp
  simp only [ho, resolve, invoke, builtin, Sem.run_bind, Sem.run_pure, Result.andThen_ok, List.map_toArray, List.map_cons, List.map_nil, hs, hx, hr]
  refine hK _ _ (h v' w' ?_ h3 h4)
  unfold OW
  rw [List.map_append, List.length_append]
  exact h2

/-- 'append(attrs, a)' -/
theorem wpList_attr {ops : Array Oper} {rest : List Oper} {o : Oper} {a : Act} {Q : Exit → Act → World → Prop} {w : World} (hgd : o.guard = none) (s x : Operand)
    (ho : o.op = .call { callee := .builtin .append, args := #[s, x], argTypes := #[55, 55] }) (B : Nat) (v : Value) (n : Nat) (xs : List Value) (hs : a.eval s = v) (hown : w.ownsRow B 58 5 v n xs)
    (g c : Nat) (news : List Value) (hx : a.eval x = .slice (some ⟨g, 0, none⟩) 1 c) (hl : news.length = 5) (hc : ∀ j u, news[j]? = some u → w.cell? ⟨g, j, none⟩ = some u) (h1 : ∀ u ∈ news, u.oneCell' = true) (hlen : n + 1 ≤ 100000000) (hB : B ≤ w.heap.size)
    (h : ∀ v' w', w'.ownsRow B 58 5 v' (n + 1) (xs ++ news) → Below B w w' → wpList Try.prog ops Q rest (a.put o.dst v') w') : wpList Try.prog ops Q (o :: rest) a w := by
  obtain ⟨i, hi, hz, hsz, hb⟩ := info_parts (show (Try.prog.info? 58).map (fun i => (i.zero, i.size, i.bytes)) = some (some (.agg #[.slice none 0 0, .int .i64 0, .int .i64 0, .int .u8 0, .bool false]), 5, 48) from by kernel_rfl)
  refine wpList_append_own w hgd s x 55 ho B 58 i _ 5 48 Try.underlying55 hi hz hsz hb rfl (by decide) v n xs hs hown ⟨g, 0, none⟩ 1 c news hx (by rw [hl]) ?_ h1 (by unfold maxLen; omega) (by omega) hB ?_
  · intro j u hj
    rw [add0]; exact hc j u hj
  · intro v' w' h2 h3 _
    exact h v' w' h2 (own_below hown hB h3)
end Go.Proofs.Qxb6000880a
