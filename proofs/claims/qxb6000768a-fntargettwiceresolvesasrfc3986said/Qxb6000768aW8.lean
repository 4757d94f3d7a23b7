import Derived.Test.Qxb6000768aW7
set_option linter.unusedSimpArgs false
set_option linter.unusedVariables false
namespace Go.Proofs.Qxb6000768a
open Go.RowKit

theorem flat_app (a b : List ByteArray) : flat (a ++ b) = flat b ++ flat a := by
  induction a with
  | nil => simp [flat]
  | cons t a ih => simp [flat, ih]
theorem rd_len : ∀ (n : Nat) (o l : Bs), (rd n o l).length ≤ o.length + l.length := by
  intro n
  induction n with
  | zero => intro o l; simp [rd]
  | succ n ih =>
    intro o l
    have hd := dropSeg_le o
    have hs := segLen_le l
    unfold rd
    repeat' split
    · simp
    · have := ih o (l.drop 3); simp at this; omega
    · have := ih o (l.drop 2); simp at this; omega
    · have := ih o (l.drop 2); simp at this; omega
    · rename_i h; have := ih o [47]; rw [h]; simp at this ⊢; omega
    · have := ih (dropSeg o) (l.drop 3); simp at this; omega
    · rename_i h; have := ih (dropSeg o) [47]; rw [h]; simp at this ⊢; omega
    · have := ih o []; simp at this; omega
    · have := ih (o ++ l.take (segLen l)) (l.drop (segLen l)); simp at this; omega
theorem RD_len (o l : Bs) : (RD o l).length ≤ o.length + l.length := rd_len _ _ _
theorem below_of_grown {w w' : World} {B g : Nat} (h : w.grownBy w' (some g)) (hB : B ≤ g) (hs : B ≤ w.heap.size) : Below B w w' :=
  ⟨h.os, h.tape, h.output, h.size, fun k hk => h.block k (by omega) (by simp; omega)⟩

theorem zzRead_any (f s : ByteArray) (w : World) (hf : f.size ≤ 1000000) (hs : s.size ≤ 1000000) :
    Calls Try.prog 11 #[.string f, .string s] w fun e w' => e = .returned (.string ⟨(f.data.toList ++ RD [] s.data.toList).toArray⟩) ∧ Below w.heap.size w w' := by
  have hx := fun w => extend_any none f 0 w (.inl ⟨rfl, rfl⟩) (by omega) (by omega)
  go_enter Try.func11, Try.ntmps11
  go_wp2_with (first | (go_at_call 28; refine (hx _).mono ?_; rintro e w' ⟨rfl, rfl⟩))
  have hP : Piece ((w.alloc (.cells #[.pointer none, .string f, .int .i64 f.size] 54)).alloc (.cells #[.pointer (some ⟨w.heap.size, 0, none⟩), .pointer (some ⟨w.heap.size, 0, none⟩), .bool false] 41)) w.heap.size none f f.size := by
    unfold Piece
    rw [Below.heap_alloc _ _ _ (by simp)]
    exact Piece.new w none f f.size
  have hD : Dot ((w.alloc (.cells #[.pointer none, .string f, .int .i64 f.size] 54)).alloc (.cells #[.pointer (some ⟨w.heap.size, 0, none⟩), .pointer (some ⟨w.heap.size, 0, none⟩), .bool false] 41)) (w.heap.size + 1) (some ⟨w.heap.size, 0, none⟩) (some ⟨w.heap.size, 0, none⟩) false := by
    have h := (MapKept.heap_alloc (w.alloc (.cells #[.pointer none, .string f, .int .i64 f.size] 54)) (.cells #[.pointer (some ⟨w.heap.size, 0, none⟩), .pointer (some ⟨w.heap.size, 0, none⟩), .bool false] 41)).1
    have hz : (w.alloc (.cells #[.pointer none, .string f, .int .i64 f.size] 54)).heap.size = w.heap.size + 1 := by simp
    rw [hz] at h
    exact h
  have hb2 : Below w.heap.size w ((w.alloc (.cells #[.pointer none, .string f, .int .i64 f.size] 54)).alloc (.cells #[.pointer (some ⟨w.heap.size, 0, none⟩), .pointer (some ⟨w.heap.size, 0, none⟩), .bool false] 41)) :=
    ((Below.refl _ _).alloc (Nat.le_refl _) _).alloc (by simp) _
  have hz2 : ((w.alloc (.cells #[.pointer none, .string f, .int .i64 f.size] 54)).alloc (.cells #[.pointer (some ⟨w.heap.size, 0, none⟩), .pointer (some ⟨w.heap.size, 0, none⟩), .bool false] 41)).heap.size = w.heap.size + 2 := by simp
  generalize ((w.alloc (.cells #[.pointer none, .string f, .int .i64 f.size] 54)).alloc (.cells #[.pointer (some ⟨w.heap.size, 0, none⟩), .pointer (some ⟨w.heap.size, 0, none⟩), .bool false] 41)) = w2 at *
  have hC : Chain w2 (some ⟨w.heap.size, 0, none⟩) [f] := ⟨w.heap.size, none, rfl, by simpa [flat, blen] using hP, (by rintro b' h; cases h), rfl⟩
  refine (read_any (w.heap.size + 1) w.heap.size _ [] [f] s false w2 hD ⟨rfl, hC⟩ trivial (.inl rfl) (by simp [flat, blen]; omega)).mono ?_
  rintro e w3 ⟨rfl, k', e1, ps', hd3, ha3, hg3, hfl3, hgr3⟩
  have hb3 : Below w.heap.size w w3 := hb2.trans (below_of_grown hgr3 (by omega) (by omega))
  obtain ⟨c0, c1, c2, c3⟩ := hd3.cells
  have hch := ha3.chain
  have hlen : (flat (ps' ++ [f])).length ≤ 100000000 := by
    rw [flat_app, List.length_append, hfl3]
    have := RD_len (flat []) s.data.toList
    simp [flat, blen] at this ⊢; omega
  have HF : Hid (flat (ps' ++ [f]) = f.data.toList ++ RD [] s.data.toList) := by
    show flat (ps' ++ [f]) = _
    rw [flat_app, hfl3]; simp [flat]
  have hzz := zzFlat_any k' (ps' ++ [f]) w3 hch hlen
  clear hx hfl3 hgr3 hP hD hb2 hz2 hC
  go_wp2_with (first | (go_at_call 30; refine hzz.mono ?_; rintro e w4 ⟨rfl, hb4⟩))
  go_ret
  exact ⟨by rw [← HF.out]; rfl, hb3.trans (hb4.mono hb3.size)⟩
end Go.Proofs.Qxb6000768a
