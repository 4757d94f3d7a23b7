import Derived.Test.Qxb6000880aProg
import Derived.WalkKit
import Derived.Deep.Draws
import Derived.Lib.AppendStr
import Derived.Laws.BytesArg
import Derived.Laws.AppendOwn
set_option linter.unusedSimpArgs false
set_option linter.unusedVariables false
namespace Go.Proofs.Qxb6000880a
open Go.RowKit

abbrev Bs := List UInt8
def u8v (b : UInt8) : Value := .int .u8 (b.toNat : Int)
def i64v (n : Nat) : Value := .int .i64 (n : Int)

section
variable {α : Type}
/-- the slice v reads as xs (one cell each) -/
def RD (f : α → Value) (w : World) (v : Value) (xs : List α) : Prop :=
  ∃ a c, v = .slice a xs.length c ∧ xs.length ≤ c ∧ ((a = none ∧ xs = [] ∧ c = 0) ∨ ∃ x, a = some x ∧ ∀ (i : Nat) (h : i < xs.length), w.cell? (x.add i) = some (f xs[i]))
/-- v is nil, or a row that lies at or above B and begins with xs -/
def OW (f : α → Value) (w : World) (B : Nat) (e : TypeId) (v : Value) (xs : List α) : Prop := w.ownsRow B e 1 v xs.length (xs.map f)
/-- block g is a row of 'cap' cells whose first ones are xs -/
def VR (f : α → Value) (w : World) (e : TypeId) (g cap : Nat) (xs : List α) : Prop :=
  ∃ cur, w.heap[g]? = some (.cells cur e (0, 0)) ∧ cur.size = cap ∧ xs.length ≤ cap ∧ cur.toList.take xs.length = xs.map f

variable {f : α → Value} {w w' : World} {v : Value} {xs : List α} {B g cap : Nat} {e : TypeId}
theorem RD.below (h : RD f w v xs) (hb : Below w.heap.size w w') : RD f w' v xs := by
  obtain ⟨a, c, rfl, hc, h⟩ := h
  refine ⟨a, c, rfl, hc, ?_⟩
  rcases h with h | ⟨x, rfl, h⟩
  · exact .inl h
  · refine .inr ⟨x, rfl, fun i hi => ?_⟩
    have := h i hi
    rw [hb.cell (World.block_lt_of_cell? w _ this)]
    exact this
theorem RD.drewN (h : RD f w v xs) (n : Nat) : RD f (w.drewN n) v xs := h
theorem RD.len (h : RD f w v xs) : ∃ a c, v = .slice a xs.length c := by
  obtain ⟨a, c, e, _⟩ := h
  exact ⟨a, c, e⟩
theorem add0 (g i : Nat) : (⟨g, 0, none⟩ : Addr).add i = ⟨g, i, none⟩ := by unfold Addr.add; split <;> simp_all
theorem addn (g o i : Nat) : (⟨g, o, none⟩ : Addr).add i = ⟨g, o + i, none⟩ := by unfold Addr.add; split <;> simp_all
theorem OW.reads (h : OW f w B e v xs) : RD f w v xs := by
  obtain ⟨h1, h2⟩ := h
  rcases h2 with ⟨rfl, h3⟩ | ⟨g, cap, cur, rfl, hb, hg, hle, hm, hs, ht⟩
  · exact ⟨none, 0, by rw [h3], by omega, .inl ⟨rfl, List.eq_nil_of_length_eq_zero h3, rfl⟩⟩
  · refine ⟨some ⟨g, 0, none⟩, cap, rfl, hle, .inr ⟨_, rfl, ?_⟩⟩
    intro i hi
    rw [add0]
    have h1 : (cur.toList.take (xs.length * 1))[i]? = some (f xs[i]) := by rw [ht]; simp [List.getElem?_eq_getElem hi]
    rw [List.getElem?_take_of_lt (by omega)] at h1
    simpa [World.cell?, hg] using h1
theorem grown_below (h : Below B w w') (hB : w.heap.size ≤ B) (r : Option Nat) : w.grownBy w' r := ⟨h.os, h.tape, h.output, h.size, fun k hk _ => h.block k (by omega)⟩
theorem OW.below (h : OW f w B e v xs) (hb : Below w.heap.size w w') : OW f w' B e v xs :=
  World.ownsRow.kept h (grown_below hb (Nat.le_refl _) none) (by cases hv : v.ownBlock <;> simp)
theorem OW.alloc (h : OW f w B e v xs) (o : Obj) : OW f (w.alloc o) B e v xs := World.ownsRow.alloc h o
theorem OW.nil (f : α → Value) (w : World) (B : Nat) (e : TypeId) : OW f w B e (.slice none 0 0) [] := World.ownsRow_nil w B e 1
theorem OW.len (h : OW f w B e v xs) : ∃ a c, v = .slice a xs.length c := h.reads.len
theorem own_below {n s : Nat} {ys : List Value} (h : w.ownsRow B e s v n ys) (hB : B ≤ w.heap.size) (hg : w.grownBy w' v.ownBlock) : Below B w w' :=
  ⟨hg.os, hg.tape, hg.output, hg.size, fun k hk => hg.block k (by omega) (fun e => by have := (World.ownsRow.lt h k e.symm).1; omega)⟩

theorem VR.lt (h : VR f w e g cap xs) : g < w.heap.size := by
  obtain ⟨cur, h, _, _, _⟩ := h
  rcases Nat.lt_or_ge g w.heap.size with h' | h'
  · exact h'
  · rw [Array.getElem?_eq_none h'] at h; simp at h
theorem VR.thaw (h : VR f w e g cap xs) (j : Nat) : w.frozen? ⟨g, j, none⟩ = false := by
  obtain ⟨cur, hg, hsz, hle, ht⟩ := h
  simp [World.frozen?, hg]
theorem VR.ex (h : VR f w e g cap xs) (j : Nat) (hj : j < cap) : ∃ v, w.cell? ⟨g, j, none⟩ = some v := by
  obtain ⟨cur, hg, hsz, hle, ht⟩ := h
  exact ⟨cur[j]'(by omega), by simp [World.cell?, hg, show j < cur.size by omega]⟩
theorem VR.push (h : VR f w e g cap xs) (hlt : xs.length < cap) (b : α) : VR f (w.setCell ⟨g, xs.length, none⟩ (f b)) e g cap (xs ++ [b]) := by
  obtain ⟨cur, hg, hsz, hle, ht⟩ := h
  refine ⟨cur.setIfInBounds xs.length (f b), ?_, by simpa using hsz, by simp; omega, ?_⟩
  · simp [World.setCell, Array.getElem?_modify, hg]
  · rw [List.map_append, ← ht]
    have hl : cur.toList.length = cap := by simpa using hsz
    rw [Array.toList_setIfInBounds]
    apply List.ext_getElem?
    intro j
    simp only [List.length_append, List.length_cons, List.length_nil]
    rcases Nat.lt_trichotomy j xs.length with h1 | h1 | h1
    · rw [List.getElem?_take_of_lt (by omega), List.getElem?_append_left (by simp [hl]; omega), List.getElem?_take_of_lt h1, List.getElem?_set_ne (by omega)]
    · subst h1
      rw [List.getElem?_take_of_lt (by omega), List.getElem?_append_right (by simp [hl]; omega), List.getElem?_set_self (by omega)]
      simp [hl, Nat.min_eq_left hle]
    · rw [List.getElem?_eq_none (by simp; omega), List.getElem?_eq_none (by simp; omega)]
theorem VR.own (h : VR f w e g cap xs) (B : Nat) (hB : B ≤ g) (hc : cap ≤ 100000000) : OW f w B e (.slice (some ⟨g, 0, none⟩) xs.length cap) xs := by
  obtain ⟨cur, hg, hsz, hle, ht⟩ := h
  refine ⟨by simp, Or.inr ⟨g, cap, cur, rfl, hB, hg, hle, by unfold maxLen; omega, by omega, by rw [Nat.mul_one]; exact ht⟩⟩
theorem VR.made (f : α → Value) (w : World) (e : TypeId) (z : Value) (n : Nat) : VR f (w.alloc (.cells (madeCells #[z] n) e)) e w.heap.size n [] := by
  refine ⟨madeCells #[z] n, (MapKept.heap_alloc w _).1, ?_, by simp, by simp⟩
  simpa using size_madeCells _ _
end

/-- a type of one cell -/
structure T1 (P : Program) (t e : TypeId) (z : Value) (b : Nat) : Prop where
  ut : P.underlying t = some (.slice e)
  inf : ∃ i, P.info? e = some i ∧ i.zero = some z ∧ i.size = 1 ∧ i.bytes = b
  zc : z.cells = #[z]
theorem t22 : T1 Try.prog 22 5 (.int .u8 0) 1 := ⟨Try.underlying22, info_parts (show (Try.prog.info? 5).map (fun i => (i.zero, i.size, i.bytes)) = some (some (.int .u8 0), 1, 1) from by kernel_rfl), rfl⟩
theorem t33 : T1 Try.prog 33 9 (.string ⟨#[]⟩) 16 := ⟨Try.underlying33, info_parts (show (Try.prog.info? 9).map (fun i => (i.zero, i.size, i.bytes)) = some (some (.string ⟨#[]⟩), 1, 16) from by kernel_rfl), rfl⟩
theorem t34 : T1 Try.prog 34 4 (.bool false) 1 := ⟨Try.underlying34, info_parts (show (Try.prog.info? 4).map (fun i => (i.zero, i.size, i.bytes)) = some (some (.bool false), 1, 1) from by kernel_rfl), rfl⟩
theorem t39 : T1 Try.prog 39 3 (.int .i64 0) 8 := ⟨Try.underlying39, info_parts (show (Try.prog.info? 3).map (fun i => (i.zero, i.size, i.bytes)) = some (some (.int .i64 0), 1, 8) from by kernel_rfl), rfl⟩
theorem t38 : T1 Try.prog 38 22 (.slice none 0 0) 24 := ⟨Try.underlying38, info_parts (show (Try.prog.info? 22).map (fun i => (i.zero, i.size, i.bytes)) = some (some (.slice none 0 0), 1, 24) from by kernel_rfl), rfl⟩

theorem run_make1 {P : Program} {t e : TypeId} {z : Value} {b : Nat} (hT : T1 P t e z b) (hb : b ≤ 24) (l n : Nat) (hl : l ≤ n) (hn : n ≤ 100000000) (w : World) :
    (Instr.makeSlice t (.int .i64 (l : Int)) (.int .i64 (n : Int))).run P w = .ok (.slice (some ⟨w.heap.size, 0, none⟩) l n) (w.alloc (.cells (madeCells #[z] n) e)) := by
  obtain ⟨i, hi, hz, hs, hb'⟩ := hT.inf
  have h := run_make (P := P) w t e i z hT.ut hi hz .i64 .i64 l n (by omega) (by omega) (by rw [hb']; have h1 : b * n ≤ 24 * n := Nat.mul_le_mul_right _ hb; omega) (by omega)
  simp only [Int.toNat_natCast, hs, Nat.mul_one, hT.zc] at h
  exact h

theorem take_snoc {α : Type} (xs : List α) (k : Nat) (hlt : k < xs.length) : xs.take (k + 1) = xs.take k ++ [xs[k]] := List.take_succ_eq_append_getElem hlt
theorem u8_ne (c d : UInt8) : ((c.toNat : Int) != (d.toNat : Int)) = !(decide (c = d)) := by
  by_cases h : c = d
  · simp [h]
  · have : (c.toNat : Int) ≠ d.toNat := fun e => h (UInt8.toNat_inj.1 (by omega))
    simp [h, bne_iff_ne, this]
theorem u8_eq (c d : UInt8) : ((c.toNat : Int) == (d.toNat : Int)) = decide (c = d) := by
  by_cases h : c = d
  · simp [h]
  · have : (c.toNat : Int) ≠ d.toNat := fun e => h (UInt8.toNat_inj.1 (by omega))
    simp [h, this]
end Go.Proofs.Qxb6000880a
