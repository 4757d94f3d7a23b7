import Derived.Test.Qxb6000768aX4
import Derived.Deep.RegionHeld3
import Derived.Deep.DrawnRows
set_option linter.unusedSimpArgs false
set_option linter.unusedVariables false
attribute [local go_sem ↓] Go.wp_at_zero Go.wp_at_succ
namespace Go.Proofs.Qxb6000768a
open Go.RowKit

/-- what stays while a Base's chains are spelt -/
def TxS (W0 : World) (B : Nat) (p0 p1 p2 p3 p4 : Option Addr) (w' : World) : Prop :=
  Below W0.heap.size W0 w' ∧ w'.cell? ⟨B, 0, none⟩ = some (.pointer p0) ∧ w'.cell? ⟨B, 1, none⟩ = some (.pointer p1) ∧ w'.cell? ⟨B, 2, none⟩ = some (.pointer p2) ∧ w'.cell? ⟨B, 3, none⟩ = some (.pointer p3) ∧ w'.cell? ⟨B, 4, none⟩ = some (.pointer p4)

theorem flat_in (W0 : World) (B : Nat) (p0 p1 p2 p3 p4 : Option Addr) (hB : B < W0.heap.size) (p : Option Addr) (c : List ByteArray) (hc : Chain W0 p c) (hl : (flat c).length ≤ 100000000) (w' : World) (h : TxS W0 B p0 p1 p2 p3 p4 w') :
    Calls Try.prog 30 #[.pointer p] w' fun e w'' => e = .returned (.string (S (flat c))) ∧ TxS W0 B p0 p1 p2 p3 p4 w'' := by
  obtain ⟨hb, h0, h1, h2, h3, h4⟩ := h
  have hBs : B < w'.heap.size := Nat.lt_of_lt_of_le hB hb.size
  refine (zzFlat_any p c w' ((Kp.below hb).chain hc) hl).mono ?_
  rintro e w'' ⟨he, hb2⟩
  exact ⟨he, hb.trans (hb2.mono hb.size), by rw [hb2.cell (p := ⟨B, 0, none⟩) hBs]; exact h0, by rw [hb2.cell (p := ⟨B, 1, none⟩) hBs]; exact h1, by rw [hb2.cell (p := ⟨B, 2, none⟩) hBs]; exact h2, by rw [hb2.cell (p := ⟨B, 3, none⟩) hBs]; exact h3, by rw [hb2.cell (p := ⟨B, 4, none⟩) hBs]; exact h4⟩

set_option maxHeartbeats 4000000 in
theorem zzText_any (p0 p1 p2 p3 p4 : Option Addr) (ro ef : Bool) (c0 c1 c2 c3 c4 : List ByteArray) (w : World) (h0 : Chain w p0 c0) (h1 : Chain w p1 c1) (h2 : Chain w p2 c2) (h3 : Chain w p3 c3) (h4 : Chain w p4 c4)
    (l0 : (flat c0).length ≤ 100000000) (l1 : (flat c1).length ≤ 100000000) (l2 : (flat c2).length ≤ 100000000) (l3 : (flat c3).length ≤ 100000000) (l4 : (flat c4).length ≤ 100000000) :
    Calls Try.prog 18 #[.agg (baseCells p0 p1 p2 p3 p4 ro ef)] w fun e w' => e = .returned (.tuple #[.string (S (flat c0)), .string (S (flat c1)), .string (S (flat c2)), .string (S (flat c3)), .string (S (flat c4))]) ∧ Below w.heap.size w w' := by
  have kn : Kp w (w.alloc (.cells #[.pointer p0, .pointer p1, .pointer p2, .pointer p3, .pointer p4, .bool ro, .bool ef] 33)) := (Kp.refl w).alloc _
  have hbl := Blk.new w #[.pointer p0, .pointer p1, .pointer p2, .pointer p3, .pointer p4, .bool ro, .bool ef] 33
  have hst : TxS (w.alloc (.cells #[.pointer p0, .pointer p1, .pointer p2, .pointer p3, .pointer p4, .bool ro, .bool ef] 33)) w.heap.size p0 p1 p2 p3 p4 (w.alloc (.cells #[.pointer p0, .pointer p1, .pointer p2, .pointer p3, .pointer p4, .bool ro, .bool ef] 33)) :=
    ⟨Below.refl _ _, hbl.cell 0, hbl.cell 1, hbl.cell 2, hbl.cell 3, hbl.cell 4⟩
  have hfin : ∀ w', TxS (w.alloc (.cells #[.pointer p0, .pointer p1, .pointer p2, .pointer p3, .pointer p4, .bool ro, .bool ef] 33)) w.heap.size p0 p1 p2 p3 p4 w' → Below w.heap.size w w' := fun w' h =>
    ((Below.refl _ _).alloc (Nat.le_refl _) _).trans (h.1.mono (by simp))
  have HFIN := hfin
  have z0 := flat_in _ w.heap.size p0 p1 p2 p3 p4 hbl.lt p0 c0 (kn.chain h0) l0
  have z1 := flat_in _ w.heap.size p0 p1 p2 p3 p4 hbl.lt p1 c1 (kn.chain h1) l1
  have z2 := flat_in _ w.heap.size p0 p1 p2 p3 p4 hbl.lt p2 c2 (kn.chain h2) l2
  have z3 := flat_in _ w.heap.size p0 p1 p2 p3 p4 hbl.lt p3 c3 (kn.chain h3) l3
  have z4 := flat_in _ w.heap.size p0 p1 p2 p3 p4 hbl.lt p4 c4 (kn.chain h4) l4
  unfold baseCells
  clear hfin kn hbl h0 h1 h2 h3 h4 l0 l1 l2 l3 l4
  go_enter Try.func18, Try.ntmps18
  go_wp2
  generalize hW : w.alloc (.cells #[.pointer p0, .pointer p1, .pointer p2, .pointer p3, .pointer p4, .bool ro, .bool ef] 33) = W0 at *
  have HW : Hid (w.alloc (.cells #[.pointer p0, .pointer p1, .pointer p2, .pointer p3, .pointer p4, .bool ro, .bool ef] 33) = W0) := hW
  clear hW
  generalize hB : w.heap.size = B at *
  unfold TxS at *
  obtain ⟨s0, s1, s2, s3, s4, s5⟩ := hst
  go_region_held3 (fun w' => Below W0.heap.size W0 w' ∧ w'.cell? ⟨B, 0, none⟩ = some (.pointer p0) ∧ w'.cell? ⟨B, 1, none⟩ = some (.pointer p1) ∧ w'.cell? ⟨B, 2, none⟩ = some (.pointer p2) ∧ w'.cell? ⟨B, 3, none⟩ = some (.pointer p3) ∧ w'.cell? ⟨B, 4, none⟩ = some (.pointer p4)) (first | assumption | exact ⟨s0.drew, s1, s2, s3, s4, s5⟩ | go_keep) (first | (go_at_call_of 30 (Value.pointer p0); refine (z0 _ ?_).mono ?_; assumption; rintro e w' ⟨rfl, hS⟩) | (go_at_call_of 30 (Value.pointer p1); refine (z1 _ ?_).mono ?_; assumption; rintro e w' ⟨rfl, hS⟩) | (go_at_call_of 30 (Value.pointer p2); refine (z2 _ ?_).mono ?_; assumption; rintro e w' ⟨rfl, hS⟩) | (go_at_call_of 30 (Value.pointer p3); refine (z3 _ ?_).mono ?_; assumption; rintro e w' ⟨rfl, hS⟩) | (go_at_call_of 30 (Value.pointer p4); refine (z4 _ ?_).mono ?_; assumption; rintro e w' ⟨rfl, hS⟩))
  all_goals go_wp2
  refine bodyPost_ret (v := .tuple #[.string (S (flat c0)), .string (S (flat c1)), .string (S (flat c2)), .string (S (flat c3)), .string (S (flat c4))]) (by simp [results, Try.results18]) rfl ⟨rfl, ?_⟩
  rw [hB]
  apply HFIN
  assumption
end Go.Proofs.Qxb6000768a
