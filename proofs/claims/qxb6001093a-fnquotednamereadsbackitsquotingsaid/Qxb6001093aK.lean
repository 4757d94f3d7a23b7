import Derived.WalkKit
import Derived.Lib.AppendStr
import Derived.Laws.BytesArg
set_option linter.unusedSimpArgs false
set_option linter.unusedVariables false
namespace Go.Proofs.Qxb6001093a
open Go.RowKit

/-- the numbers of '[]byte' and 'byte' in a program -/
structure ByteT (P : Program) (t e : TypeId) : Prop where
  ut : P.underlying t = some (.slice e)
  ue : P.underlying e = some (.int .u8)
  inf : ∃ i, P.info? e = some i ∧ i.zero = some (.int .u8 0) ∧ i.size = 1 ∧ i.bytes = 1

def bvals (xs : List UInt8) : List Value := xs.map fun b => Value.int .u8 b.toNat
theorem bvals_len (xs : List UInt8) : (bvals xs).length = xs.length := by simp [bvals]
theorem bvals_one (xs : List UInt8) : ∀ u ∈ bvals xs, u.oneCell' = true := by
  intro u hu
  obtain ⟨_, _, rfl⟩ := List.mem_map.1 hu
  rfl
theorem bvals_app (xs ys : List UInt8) : bvals (xs ++ ys) = bvals xs ++ bvals ys := by simp [bvals]
theorem bvals_take (xs : List UInt8) (k : Nat) : bvals (xs.take k) = (bvals xs).take k := by simp [bvals, List.map_take]
theorem strCells_eq (s : ByteArray) : Lib.strCells s = bvals s.data.toList := rfl
theorem bvals_get (xs : List UInt8) (j : Nat) (h : j < xs.length) : (bvals xs)[j]? = some (.int .u8 (xs[j].toNat : Int)) := by
  simp [bvals, List.getElem?_eq_getElem h]

/-- block g is a row of 'cap' bytes whose first ones are xs -/
def Row (w : World) (e : TypeId) (g cap : Nat) (xs : List UInt8) : Prop :=
  ∃ cur, w.heap[g]? = some (.cells cur e (0, 0)) ∧ cur.size = cap ∧ xs.length ≤ cap ∧ cur.toList.take xs.length = bvals xs

theorem Row.le {w : World} {e : TypeId} {g cap : Nat} {xs : List UInt8} (h : Row w e g cap xs) : xs.length ≤ cap := by
  obtain ⟨cur, _, _, h, _⟩ := h; exact h
theorem Row.lt {w : World} {e : TypeId} {g cap : Nat} {xs : List UInt8} (h : Row w e g cap xs) : g < w.heap.size := by
  obtain ⟨cur, h, _, _, _⟩ := h
  rcases Nat.lt_or_ge g w.heap.size with h' | h'
  · exact h'
  · rw [Array.getElem?_eq_none h'] at h; simp at h
theorem Row.cell {w : World} {e : TypeId} {g cap : Nat} {xs : List UInt8} (h : Row w e g cap xs) (j : Nat) (hj : j < xs.length) :
    w.cell? ⟨g, j, none⟩ = some (.int .u8 (xs[j].toNat : Int)) := by
  obtain ⟨cur, hg, hsz, hle, ht⟩ := h
  have h1 : (cur.toList.take xs.length)[j]? = some (.int .u8 (xs[j].toNat : Int)) := by rw [ht, bvals_get xs j hj]
  rw [List.getElem?_take_of_lt hj] at h1
  simpa [World.cell?, hg] using h1
theorem Row.thaw {w : World} {e : TypeId} {g cap : Nat} {xs : List UInt8} (h : Row w e g cap xs) (j : Nat) : w.frozen? ⟨g, j, none⟩ = false := by
  obtain ⟨cur, hg, hsz, hle, ht⟩ := h
  simp [World.frozen?, hg]
theorem Row.take {w : World} {e : TypeId} {g cap : Nat} {xs : List UInt8} (h : Row w e g cap xs) (k : Nat) : Row w e g cap (xs.take k) := by
  obtain ⟨cur, hg, hsz, hle, ht⟩ := h
  refine ⟨cur, hg, hsz, by simp; omega, ?_⟩
  rw [bvals_take, ← ht, List.take_take, List.length_take]
theorem Row.of_block {w w' : World} {e : TypeId} {g cap : Nat} {xs : List UInt8} (h : Row w e g cap xs) (hb : w'.heap[g]? = w.heap[g]?) : Row w' e g cap xs := by
  obtain ⟨cur, hg, r⟩ := h
  exact ⟨cur, by rw [hb]; exact hg, r⟩
theorem Row.kept {w w' : World} {r : Option Nat} {e : TypeId} {g cap : Nat} {xs : List UInt8} (h : Row w e g cap xs) (hg : w.grownBy w' r) (hr : r ≠ some g) : Row w' e g cap xs :=
  h.of_block (hg.block g h.lt (fun e => hr e.symm))
theorem Row.below {w w' : World} {B : Nat} {e : TypeId} {g cap : Nat} {xs : List UInt8} (h : Row w e g cap xs) (hg : Below B w w') (hr : g < B) : Row w' e g cap xs :=
  h.of_block (hg.block g hr)

def zeros (n : Nat) : Array Value := madeCells #[.int .u8 0] n
theorem zeros_size (n : Nat) : (zeros n).size = n := size_madeCells _ _
theorem zeros_list (n : Nat) : (zeros n).toList = List.replicate n (.int .u8 0) := toList_madeCells_one _ _

theorem run_make_bytes {P : Program} {t e : TypeId} (hT : ByteT P t e) (l n : Nat) (hl : l ≤ n) (hn : n ≤ 281474976710656) (w : World) :
    (Instr.makeSlice t (.int .i64 (l : Int)) (.int .i64 (n : Int))).run P w = .ok (.slice (some ⟨w.heap.size, 0, none⟩) l n) (w.alloc (.cells (zeros n) e)) := by
  obtain ⟨i, hi, hz, hs, hb⟩ := hT.inf
  have h := run_make (P := P) w t e i (.int .u8 0) hT.ut hi hz .i64 .i64 l n (by omega) (by omega) (by rw [hb]; omega) (by omega)
  simp only [Int.toNat_natCast, hs, Nat.mul_one] at h
  exact h

theorem Row.made (w : World) (e : TypeId) (n k : Nat) (hk : k ≤ n) : Row (w.alloc (.cells (zeros n) e)) e w.heap.size n (List.replicate k 0) := by
  refine ⟨zeros n, (MapKept.heap_alloc w _).1, zeros_size n, by simpa using hk, ?_⟩
  rw [zeros_list, List.length_replicate, List.take_replicate, Nat.min_eq_left hk]
  simp [bvals]

theorem Row.append {w : World} {e : TypeId} {g cap : Nat} {xs : List UInt8} {cur : Array Value} (ys : List UInt8) (hg : w.heap[g]? = some (.cells cur e (0, 0))) (hsz : cur.size = cap) (ht : cur.toList.take xs.length = bvals xs)
    (hroom : xs.length + ys.length ≤ cap) : Row (w.setRow g (cur.toList.take xs.length ++ bvals ys ++ cur.toList.drop (xs.length + ys.length)).toArray) e g cap (xs ++ ys) := by
  have hl : (cur.toList.take xs.length).length = xs.length := by rw [ht, bvals_len]
  refine ⟨_, setRow_heap w g cur _ e _ hg, ?_, by simpa using hroom, ?_⟩
  · have h2 : cur.toList.length = cap := by simpa using hsz
    simp [bvals_len, h2]; omega
  · rw [ht, bvals_app]
    rw [List.take_append_of_le_length (by simp [bvals_len])]
    rw [List.take_of_length_le (by simp [bvals_len])]

theorem grownBy_setRow (w : World) (g : Nat) (cs : Array Value) : w.grownBy (w.setRow g cs) (some g) :=
  ⟨rfl, rfl, rfl, by simp, fun k _ hk => setRow_other w g k cs (fun e => hk (by rw [e]))⟩

/-- 'append(out, s...)', s a string, where there is room -/
theorem run_append_str {P : Program} {t e u ty : TypeId} (hT : ByteT P t e) (hu : P.underlying u = some .string) {w : World} {g cap n : Nat} {xs : List UInt8} (hr : Row w e g cap xs) (hn : n = xs.length) (s : ByteArray) (hroom : xs.length + s.size ≤ cap) :
    ∃ w', (Builtin.append_ #[t, u] ty #[.slice (some ⟨g, 0, none⟩) n cap, .string s]).run P w = .ok (.slice (some ⟨g, 0, none⟩) (n + s.size) cap) w' ∧ Row w' e g cap (xs ++ s.data.toList) ∧ w.grownBy w' (some g) := by
  subst hn
  obtain ⟨i, hi, hz, hs, hb⟩ := hT.inf
  obtain ⟨cur, hg, hsz, hle, ht⟩ := hr
  have hb : s.data.toList.length = s.size := Array.length_toList
  refine ⟨_, Lib.run_append_room_string w t u ty e i hT.ut hu hi hs g xs.length cap cur hg s hroom (by omega), ?_, grownBy_setRow _ _ _⟩
  have := Row.append (w := w) (e := e) (g := g) (cap := cap) (xs := xs) (cur := cur) s.data.toList hg hsz ht (by rw [hb]; exact hroom)
  rw [hb] at this
  exact this

theorem wpList_append_str {P : Program} {t e u : TypeId} (hT : ByteT P t e) (hu : P.underlying u = some .string) {w : World} {ops : Array Oper} {rest : List Oper} {o : Oper} {a : Act} {Q : Exit → Act → World → Prop} (hgd : o.guard = none) (sl x : Operand)
    (ho : o.op = .call { callee := .builtin .append, args := #[sl, x], argTypes := #[t, u] })
    (g cap n : Nat) (xs : List UInt8) (s : ByteArray) (hs : a.eval sl = .slice (some ⟨g, 0, none⟩) n cap) (hx : a.eval x = .string s) (hr : Row w e g cap xs) (hn : n = xs.length) (hroom : xs.length + s.size ≤ cap)
    (h : ∀ w', Row w' e g cap (xs ++ s.data.toList) → w.grownBy w' (some g) → wpList P ops Q rest (a.put o.dst (.slice (some ⟨g, 0, none⟩) (n + s.size) cap)) w') : wpList P ops Q (o :: rest) a w := by
  refine wpList_plain hgd fun K hK => ?_
  obtain ⟨w', hr, h2, h3⟩ := run_append_str (ty := o.type) hT hu hr hn s hroom
  unfold Oper.wp execOp
  simp only [ho, resolve, invoke, builtin, Sem.run_bind, Sem.run_pure, Result.andThen_ok, List.map_toArray, List.map_cons, List.map_nil, hs, hx, hr]
  exact hK _ _ (h w' h2 h3)

theorem strOfNums_bytes (xs : List UInt8) : strOfNums (xs.map fun b => (b.toNat : Int)) = ⟨xs.toArray⟩ := by
  unfold strOfNums
  congr 2
  rw [List.map_map]
  conv => rhs; rw [← List.map_id xs]
  apply List.map_congr_left
  intro b _
  simp

/-- 'string(out)' -/
theorem run_to_string {P : Program} {t e u : TypeId} (hT : ByteT P t e) (hu : P.underlying u = some .string) {w : World} {g cap n : Nat} {xs : List UInt8} (hr : Row w e g cap xs) (hn : n = xs.length) :
    (convert t u (.slice (some ⟨g, 0, none⟩) n cap)).run P w = .ok (.string ⟨xs.toArray⟩) w := by
  subst hn
  have := run_convert_bytes_arg (P := P) w t e hT.ut hT.ue g 0 xs.length cap (xs.map fun b => (b.toNat : Int)) (by simp) (fun i hi => by
    have := hr.cell i hi
    simp [List.getD, List.getElem?_eq_getElem hi, this]) u hu
  rw [this, strOfNums_bytes]

/-- 'copy(out[o:o+n], s)', s a string of n bytes -/
theorem run_copy_str {P : Program} {t e u ty : TypeId} (hT : ByteT P t e) {w : World} {g cap : Nat} {xs : List UInt8} (hr : Row w e g cap xs) (ao : Option Addr) (o n c : Nat) (s : ByteArray)
    (ha : ao = some ⟨g, o, none⟩ ∨ (s.size = 0 ∧ ∃ a, ao = some a)) (hn : n = s.size) (hfit : o + s.size ≤ xs.length) :
    ∃ w', (Builtin.copy_ #[t, u] ty #[.slice ao n c, .string s]).run P w = .ok (goInt s.size) w' ∧ Row w' e g cap (xs.take o ++ s.data.toList ++ xs.drop (o + s.size)) ∧ w.grownBy w' (some g) := by
  subst hn
  obtain ⟨i, hi, hz, hs, hb⟩ := hT.inf
  have hf := Lib.run_firstCells_string (P := P) w 1 s
  have hbl : s.data.toList.length = s.size := Array.length_toList
  rcases ha with rfl | ⟨h0, a, rfl⟩
  · obtain ⟨cur, hg, hsz, hle, ht⟩ := hr
    have hst := run_storeCells_at P g o e (Lib.strCells s) 0 cur w hg (by rw [Lib.strCells_length]; omega) (Lib.strCells_oneCell s)
    simp only [Nat.add_zero, Lib.strCells_length] at hst
    refine ⟨w.setRow g (cur.toList.take o ++ Lib.strCells s ++ cur.toList.drop (o + s.size)).toArray, by simp [Builtin.copy_, run_underlying hT.ut, Builtin.lenOf, sizeOf, typeInfo, hi, hs, hf, hst], ?_, grownBy_setRow _ _ _⟩
    refine ⟨_, setRow_heap w g cur _ e _ hg, ?_, ?_, ?_⟩
    · have h2 : cur.toList.length = cap := by simpa using hsz
      simp [Lib.strCells_length, h2]; omega
    · simp [hbl]; omega
    · have h2 : cur.toList.length = cap := by simpa using hsz
      have e1 : cur.toList.take o = bvals (xs.take o) := by
        rw [bvals_take, ← ht, List.take_take, Nat.min_eq_left (by omega)]
      have e2 : (cur.toList.drop (o + s.size)).take (xs.length - (o + s.size)) = bvals (xs.drop (o + s.size)) := by
        have : bvals (xs.drop (o + s.size)) = (bvals xs).drop (o + s.size) := by simp [bvals, List.map_drop]
        rw [this, ← ht, List.drop_take]
      have e3 : (xs.take o ++ s.data.toList ++ xs.drop (o + s.size)).length = (cur.toList.take o ++ Lib.strCells s).length + (xs.length - (o + s.size)) := by
        simp [hbl, Lib.strCells_length, h2]; omega
      show (cur.toList.take o ++ Lib.strCells s ++ cur.toList.drop (o + s.size)).take _ = _
      rw [e3, List.take_length_add_append, e2, e1, strCells_eq, ← bvals_app, ← bvals_app]
  · have hnil : Lib.strCells s = [] := List.eq_nil_of_length_eq_zero (by rw [Lib.strCells_length]; exact h0)
    have hsn : s.data.toList = [] := List.eq_nil_of_length_eq_zero (by rw [hbl]; exact h0)
    rw [hnil] at hf
    refine ⟨w, by rw [h0] at hf ⊢; simp [Builtin.copy_, run_underlying hT.ut, Builtin.lenOf, sizeOf, typeInfo, hi, hs, h0, hf, storeCells], ?_, World.grownBy.refl _ _⟩
    rw [hsn, h0]; simpa using hr
end Go.Proofs.Qxb6001093a
