import Derived.Test.Qxb6000768aProg
import Derived.WalkKit
import Derived.LaidEqlPtr
namespace Go.Proofs.Qxb6000768a
open Go.RowKit

theorem run_neq_ptr_same {P : Program} {tp te : TypeId} {j : TypeInfo} (w : World) (a : Addr) (hp : P.underlying tp = some (.pointer te)) (hte : P.info? te = some j) :
    (binOp .neq tp (.pointer (some a)) (.pointer (some a))).run P w = .ok (.bool false) w := by
  have h : ∀ d : Nat, (Op.equalIn (d + 1) tp (.pointer (some a)) (.pointer (some a))).run P w = .ok true w := fun d => by
    simp [Op.equalIn, run_underlying hp, sizeOf, typeInfo, hte, run_sameAddr_same]
  simp only [binOp]
  simp [Op.equal, Op.maxDepth, h 9999]

theorem run_neq_ptr_other {P : Program} {tp te : TypeId} {j : TypeInfo} (w : World) {a b : Addr} {ca cb : Array Value} {ta tb : TypeId} (hp : P.underlying tp = some (.pointer te)) (hte : P.info? te = some j) (hsz : j.size ≠ 0)
    (hne : a ≠ b) (ha : w.heap[a.block]? = some (.cells ca ta (0, 0))) (hb : w.heap[b.block]? = some (.cells cb tb (0, 0))) :
    (binOp .neq tp (.pointer (some a)) (.pointer (some b))).run P w = .ok (.bool true) w := by
  have h : ∀ d : Nat, (Op.equalIn (d + 1) tp (.pointer (some a)) (.pointer (some b))).run P w = .ok false w := fun d => by
    simp [Op.equalIn, run_underlying hp, sizeOf, typeInfo, hte, hsz, run_sameAddr_other w hne ha hb]
  simp only [binOp]
  simp [Op.equal, Op.maxDepth, h 9999]

theorem info54 : (Try.prog.info? 54).map (fun i => i.size) = some 3 := by kernel_rfl
theorem info54' : ∃ j, Try.prog.info? 54 = some j ∧ j.size ≠ 0 := by
  have h := info54
  cases e : Try.prog.info? 54 with
  | none => rw [e] at h; simp at h
  | some j => rw [e] at h; simp at h; exact ⟨j, rfl, by omega⟩

theorem neq_same (w : World) (p : Option Addr) : (binOp .neq 31 (.pointer p) (.pointer p)).run Try.prog w = .ok (.bool false) w := by
  obtain ⟨j, hj, _⟩ := info54'
  cases p with
  | none => simpa using run_neq_pointer_nil (P := Try.prog) w 31 none Try.underlying31
  | some a => exact run_neq_ptr_same w a Try.underlying31 hj
theorem eql_same (w : World) (p : Option Addr) : (binOp .eql 31 (.pointer p) (.pointer p)).run Try.prog w = .ok (.bool true) w := by
  obtain ⟨j, hj, _⟩ := info54'
  cases p with
  | none => simpa using run_eql_pointer_nil (P := Try.prog) w 31 none Try.underlying31
  | some a => exact run_eql_ptr_same w a Try.underlying31 hj

/-- the length that a chain's head tells -/
def LenOf (w : World) (p : Option Addr) (n : Nat) : Prop :=
  (p = none ∧ n = 0) ∨ ∃ b, p = some ⟨b, 0, none⟩ ∧ w.cell? ⟨b, 2, none⟩ = some (.int .i64 n)

theorem length_any (p : Option Addr) (n : Nat) (w : World) (h : LenOf w p n) : Calls Try.prog 38 #[.pointer p] w fun e w' => e = .returned (.int .i64 n) ∧ w' = w := by
  rcases h with ⟨rfl, rfl⟩ | ⟨b, rfl, h⟩
  · go_enter Try.func38, Try.ntmps38
    go_wp2
    go_ret
    exact ⟨rfl, rfl⟩
  · go_enter Try.func38, Try.ntmps38
    go_wp2
    go_ret
    exact ⟨rfl, rfl⟩

theorem extend_any (p : Option Addr) (s : ByteArray) (n : Nat) (w : World) (h : LenOf w p n) (hn : n ≤ 100000000) (hs : s.size ≤ 100000000) :
    Calls Try.prog 28 #[.pointer p, .string s] w fun e w' => e = .returned (.pointer (some ⟨w.heap.size, 0, none⟩)) ∧ w' = w.alloc (.cells #[.pointer p, .string s, .int .i64 (n + s.size : Nat)] 54) := by
  go_enter Try.func28, Try.ntmps28
  go_wp2_with (go_at_call 38; refine (length_any _ n _ h).mono ?_; rintro e w' ⟨rfl, rfl⟩)
  go_ret
  exact ⟨rfl, by simp⟩



/-- a piece in memory -/
def Piece (w : World) (b : Nat) (q : Option Addr) (s : ByteArray) (n : Nat) : Prop :=
  w.heap[b]? = some (.cells #[.pointer q, .string s, .int .i64 n] 54 (0, 0))
/-- a dotRemoval in memory -/
def Dot (w : World) (g : Nat) (k f : Option Addr) (e : Bool) : Prop :=
  w.heap[g]? = some (.cells #[.pointer k, .pointer f, .bool e] 41 (0, 0))

theorem Piece.cells {w : World} {b : Nat} {q : Option Addr} {s : ByteArray} {n : Nat} (h : Piece w b q s n) :
    w.cell? ⟨b, 0, none⟩ = some (.pointer q) ∧ w.cell? ⟨b, 1, none⟩ = some (.string s) ∧ w.cell? ⟨b, 2, none⟩ = some (.int .i64 n) := by
  unfold Piece at h
  simp [World.cell?, h]
theorem Dot.cells {w : World} {g : Nat} {k f : Option Addr} {e : Bool} (h : Dot w g k f e) :
    w.cell? ⟨g, 0, none⟩ = some (.pointer k) ∧ w.cell? ⟨g, 1, none⟩ = some (.pointer f) ∧ w.cell? ⟨g, 2, none⟩ = some (.bool e) ∧ (∀ o, w.frozen? ⟨g, o, none⟩ = false) := by
  unfold Dot at h
  refine ⟨by simp [World.cell?, h], by simp [World.cell?, h], by simp [World.cell?, h], fun o => by simp [World.frozen?, h]⟩

theorem grownBy_set (w : World) (a : Addr) (v : Value) : w.grownBy (w.setCell a v) (some a.block) :=
  ⟨rfl, rfl, rfl, by simp [World.setCell], fun k _ hk => Below.heap_setCell _ _ _ _ (fun e => hk (by rw [e]))⟩

theorem Dot.set0 {w : World} {g : Nat} {k f : Option Addr} {e : Bool} (h : Dot w g k f e) (q : Option Addr) : Dot (w.setCell ⟨g, 0, none⟩ (.pointer q)) g q f e := by
  unfold Dot at h ⊢
  simp [World.setCell, Array.getElem?_modify, h]
theorem Dot.set2 {w : World} {g : Nat} {k f : Option Addr} {e : Bool} (h : Dot w g k f e) (q : Bool) : Dot (w.setCell ⟨g, 2, none⟩ (.bool q)) g k f q := by
  unfold Dot at h ⊢
  simp [World.setCell, Array.getElem?_modify, h]
theorem lt_of_some {w : World} {g : Nat} {o : Obj} (h : w.heap[g]? = some o) : g < w.heap.size := by
  rcases Nat.lt_or_ge g w.heap.size with h' | h'
  · exact h'
  · rw [Array.getElem?_eq_none h'] at h; simp at h
theorem Dot.alloc {w : World} {g : Nat} {k f : Option Addr} {e : Bool} (h : Dot w g k f e) (o : Obj) : Dot (w.alloc o) g k f e := by
  have := lt_of_some h
  unfold Dot at h ⊢
  rw [Below.heap_alloc _ _ _ this, h]
theorem Piece.new (w : World) (q : Option Addr) (s : ByteArray) (n : Nat) : Piece (w.alloc (.cells #[.pointer q, .string s, .int .i64 n] 54)) w.heap.size q s n := by
  unfold Piece
  exact (MapKept.heap_alloc w _).1
theorem grownBy_trans {a b c : World} {r : Option Nat} (h : a.grownBy b r) (k : b.grownBy c r) : a.grownBy c r :=
  ⟨k.os.trans h.os, k.tape.trans h.tape, k.output.trans h.output, Nat.le_trans h.size k.size, fun i hi hr => (k.block i (Nat.lt_of_lt_of_le hi h.size) hr).trans (h.block i hi hr)⟩
theorem grownBy_drew {a b : World} {r : Option Nat} (h : a.grownBy b r) : a.grownBy b.drew r := ⟨h.os, h.tape, h.output, h.size, h.block⟩

theorem pop_same (g : Nat) (p : Option Addr) (e0 : Bool) (w : World) (h : Dot w g p p e0) :
    Calls Try.prog 35 #[.pointer (some ⟨g, 0, none⟩)] w fun e w' => e = .returned (.tuple #[]) ∧ Dot w' g p p e0 ∧ w.grownBy w' (some g) := by
  have e := neq_same w.drew p
  obtain ⟨h0, h1, h2, h3⟩ := h.cells
  go_enter Try.func35, Try.ntmps35
  go_wp2
  go_region
  all_goals go_wp2
  all_goals go_end0
  exact ⟨rfl, h, ⟨rfl, rfl, rfl, Nat.le_refl _, fun _ _ _ => rfl⟩⟩

theorem pop_other (g b f : Nat) (q : Option Addr) (s sf : ByteArray) (qf : Option Addr) (n nf : Nat) (e0 : Bool) (w : World) (h : Dot w g (some ⟨b, 0, none⟩) (some ⟨f, 0, none⟩) e0) (hb : Piece w b q s n) (hf : Piece w f qf sf nf) (hne : b ≠ f) :
    Calls Try.prog 35 #[.pointer (some ⟨g, 0, none⟩)] w fun e w' => e = .returned (.tuple #[]) ∧ Dot w' g q (some ⟨f, 0, none⟩) e0 ∧ w.grownBy w' (some g) := by
  obtain ⟨j, hj, hj0⟩ := info54'
  have e := run_neq_ptr_other w.drew (a := ⟨b, 0, none⟩) (b := ⟨f, 0, none⟩) Try.underlying31 hj hj0 (by intro e; exact hne (congrArg Addr.block e)) hb hf
  clear hj hj0
  obtain ⟨h0, h1, h2, h3⟩ := h.cells
  obtain ⟨p0, p1, p2⟩ := hb.cells
  go_enter Try.func35, Try.ntmps35
  go_wp2
  go_region
  all_goals go_wp2
  all_goals go_end0
  exact ⟨rfl, h.set0 q, grownBy_drew (grownBy_set w ⟨g, 0, none⟩ _)⟩

theorem size_set (w : World) (a : Addr) (v : Value) : (w.setCell a v).heap.size = w.heap.size := by simp [World.setCell]
theorem LenOf.set {w : World} {g : Nat} {k f p : Option Addr} {e : Bool} {n : Nat} (h : Dot w g k f e) (hl : LenOf w p n) (o : Nat) (v : Value) : LenOf (w.setCell ⟨g, o, none⟩ v) p n := by
  rcases hl with hl | ⟨b, rfl, hb⟩
  · exact .inl hl
  · refine .inr ⟨b, rfl, ?_⟩
    have hne : b ≠ g := by
      rintro rfl
      rw [h.cells.2.2.1] at hb
      simp at hb
    rw [← hb]
    exact World.cell?_of_block (Below.heap_setCell _ _ _ _ hne)

theorem push_same (g : Nat) (p : Option Addr) (s : ByteArray) (n : Nat) (e0 : Bool) (w : World) (h : Dot w g p p e0) (hl : LenOf w p n) (hn : n ≤ 100000000) (hs : s.size ≤ 100000000) :
    Calls Try.prog 42 #[.pointer (some ⟨g, 0, none⟩), .string s] w fun e w' => e = .returned (.tuple #[]) ∧ (∃ e1, Dot w' g (some ⟨w.heap.size, 0, none⟩) p e1) ∧ Piece w' w.heap.size p s (n + s.size) ∧ w.grownBy w' (some g) := by
  have e := eql_same w.drew p
  obtain ⟨h0, h1, h2, h3⟩ := h.cells
  have hg := lt_of_some h
  have hD := h.set2 (s.toList == [47])
  have hl1 : LenOf ((w.setCell ⟨g, 2, none⟩ (.bool (s.toList == [47]))).drew) p n := LenOf.set h hl _ _
  have hA := fun o => (hD.alloc o).cells.1
  have hB := fun o => (hD.alloc o).cells.2.2.2 0
  go_enter Try.func42, Try.ntmps42
  go_wp2
  go_region
  all_goals go_wp2_with (go_at_call 28; refine (extend_any _ _ n _ hl1 hn hs).mono ?_; rintro e w' ⟨rfl, rfl⟩)
  all_goals go_end0
  have P := Piece.new ((w.setCell ⟨g, 2, none⟩ (.bool (s.toList == [47]))).setCell ⟨g, 0, none⟩ (.pointer (some ⟨w.heap.size, 0, none⟩))) p s (n + s.size)
  rw [size_set, size_set] at P
  exact ⟨rfl, ⟨_, (hD.set0 _).alloc _⟩, P, grownBy_drew (grownBy_trans (grownBy_trans (grownBy_set w ⟨g, 2, none⟩ _) (grownBy_set _ ⟨g, 0, none⟩ _)) (World.grownBy_alloc _ _ _))⟩

theorem push_other (g b f : Nat) (q : Option Addr) (s0 sf : ByteArray) (qf : Option Addr) (n nf : Nat) (s : ByteArray) (e0 : Bool) (w : World) (h : Dot w g (some ⟨b, 0, none⟩) (some ⟨f, 0, none⟩) e0) (hb : Piece w b q s0 n) (hf : Piece w f qf sf nf) (hne : b ≠ f) (hn : n ≤ 100000000) (hs : s.size ≤ 100000000) :
    Calls Try.prog 42 #[.pointer (some ⟨g, 0, none⟩), .string s] w fun e w' => e = .returned (.tuple #[]) ∧ (∃ e1, Dot w' g (some ⟨w.heap.size, 0, none⟩) (some ⟨f, 0, none⟩) e1) ∧ Piece w' w.heap.size (some ⟨b, 0, none⟩) s (n + s.size) ∧ w.grownBy w' (some g) := by
  obtain ⟨j, hj, hj0⟩ := info54'
  have e := run_eql_ptr_other w.drew (a := ⟨b, 0, none⟩) (b := ⟨f, 0, none⟩) Try.underlying31 hj hj0 (by intro e; exact hne (congrArg Addr.block e)) hb hf
  clear hj hj0
  obtain ⟨h0, h1, h2, h3⟩ := h.cells
  obtain ⟨p0, p1, p2⟩ := hb.cells
  have hg := lt_of_some h
  have hl1 : LenOf w.drew (some ⟨b, 0, none⟩) n := .inr ⟨b, rfl, p2⟩
  have hA := fun o => (h.alloc o).cells.1
  have hB := fun o => (h.alloc o).cells.2.2.2 0
  go_enter Try.func42, Try.ntmps42
  go_wp2
  go_region
  all_goals go_wp2_with (go_at_call 28; refine (extend_any _ _ n _ hl1 hn hs).mono ?_; rintro e w' ⟨rfl, rfl⟩)
  all_goals go_end0
  have P := Piece.new (w.setCell ⟨g, 0, none⟩ (.pointer (some ⟨w.heap.size, 0, none⟩))) (some ⟨b, 0, none⟩) s (n + s.size)
  rw [size_set] at P
  exact ⟨rfl, ⟨_, (h.set0 _).alloc _⟩, P, grownBy_drew (grownBy_trans (grownBy_set w ⟨g, 0, none⟩ _) (World.grownBy_alloc _ _ _))⟩
end Go.Proofs.Qxb6000768a
