import Derived.Test.Qxb6001093aProg
import Derived.Test.Qxb6001093aShelf
import Derived.Test.Qxb6001093aK
import Derived.WalkKit
import Derived.Deep.Draws
import Derived.Deep.DeepCutAuto
import Derived.Laws.AppendOwn
import Derived.Laws.AppendOwnNone
set_option linter.unusedSimpArgs false
set_option linter.unusedVariables false
namespace Go.Proofs.Qxb6001093a
open Go.RowKit

abbrev Bs := List UInt8
theorem bt : ByteT Try.prog 22 5 := ⟨Try.underlying22, Try.underlying5, info_parts (show (Try.prog.info? 5).map (fun i => (i.zero, i.size, i.bytes)) = some (some (.int .u8 0), 1, 1) from by kernel_rfl)⟩

/-- the slice v reads as the bytes xs -/
def Reads (w : World) (v : Value) (xs : Bs) : Prop :=
  ∃ a c, v = .slice a xs.length c ∧ ((a = none ∧ xs = []) ∨ ∃ x, a = some x ∧ ∀ (i : Nat) (h : i < xs.length), w.cell? (x.add i) = some (.int .u8 (xs[i].toNat : Int)))

/-- v is nil, or a row of the callee's own that lies at or above B and begins with xs -/
def Own (w : World) (B : Nat) (v : Value) (xs : Bs) : Prop := w.ownsRow B 5 1 v xs.length (bvals xs)

theorem Own.reads {w : World} {B : Nat} {v : Value} {xs : Bs} (h : Own w B v xs) : Reads w v xs := by
  obtain ⟨h1, h2⟩ := h
  rcases h2 with ⟨rfl, h3⟩ | ⟨g, cap, cur, rfl, hb, hg, hle, hm, hs, ht⟩
  · exact ⟨none, 0, by rw [h3], .inl ⟨rfl, List.eq_nil_of_length_eq_zero h3⟩⟩
  · refine ⟨some ⟨g, 0, none⟩, cap, rfl, .inr ⟨_, rfl, ?_⟩⟩
    intro i hi
    have hadd : (⟨g, 0, none⟩ : Addr).add i = ⟨g, i, none⟩ := by unfold Addr.add; split <;> simp_all
    rw [hadd]
    have h1 : (cur.toList.take (xs.length * 1))[i]? = some (.int .u8 (xs[i].toNat : Int)) := by rw [ht, bvals_get xs i hi]
    rw [List.getElem?_take_of_lt (by omega)] at h1
    simpa [World.cell?, hg] using h1
theorem grown_below {w w' : World} {B : Nat} (h : Below B w w') (hB : w.heap.size ≤ B) (r : Option Nat) : w.grownBy w' r := ⟨h.os, h.tape, h.output, h.size, fun k hk _ => h.block k (by omega)⟩
theorem Own.below {w w' : World} {B : Nat} {v : Value} {xs : Bs} (h : Own w B v xs) (hb : Below w.heap.size w w') : Own w' B v xs :=
  World.ownsRow.kept h (grown_below hb (Nat.le_refl _) none) (by cases hv : v.ownBlock <;> simp)
theorem Reads.below {w w' : World} {v : Value} {xs : Bs} (h : Reads w v xs) (hb : Below w.heap.size w w') : Reads w' v xs := by
  obtain ⟨a, c, rfl, h⟩ := h
  refine ⟨a, c, rfl, ?_⟩
  rcases h with h | ⟨x, rfl, h⟩
  · exact .inl h
  · refine .inr ⟨x, rfl, fun i hi => ?_⟩
    have := h i hi
    rw [hb.cell (World.block_lt_of_cell? w _ this)]
    exact this
theorem Reads.cast {w : World} {v : Value} {xs ys : Bs} (h : Reads w v xs) (e : xs = ys) : Reads w v ys := e ▸ h

theorem u8_ne (c d : UInt8) : ((c.toNat : Int) != (d.toNat : Int)) = !(decide (c = d)) := by
  by_cases h : c = d
  · simp [h]
  · have : (c.toNat : Int) ≠ d.toNat := fun e => h (UInt8.toNat_inj.1 (by omega))
    simp [h, bne_iff_ne, this]

theorem equal_any (v1 v2 : Value) (xs ys : Bs) (w : World) (h1 : Reads w v1 xs) (h2 : Reads w v2 ys) (hx : xs.length ≤ 100000000) (hy : ys.length ≤ 100000000) :
    Calls Try.prog 23 #[v1, v2] w fun e w' => e = .returned (.bool (decide (xs = ys))) ∧ ∃ n, w' = w.drewN n := by
  obtain ⟨a1, c1, rfl, h1⟩ := h1
  obtain ⟨a2, c2, rfl, h2⟩ := h2
  by_cases hz : xs.length = ys.length
  · have HV : Hid ((∀ j, j < xs.length → xs[j]? = ys[j]?) → xs = ys) := by
      intro h
      apply List.ext_getElem?
      intro j
      rcases Nat.lt_or_ge j xs.length with hj | hj
      · exact h j hj
      · rw [List.getElem?_eq_none hj, List.getElem?_eq_none (by omega)]
    obtain ⟨T, HT⟩ : ∃ T : Bool, Hid (decide (xs = ys) = T) := ⟨_, rfl⟩
    rw [HT.out]
    have hz' : (xs.length : Int) = (ys.length : Int) := by omega
    rcases Nat.eq_zero_or_pos xs.length with h0 | h0
    · have HF : Hid (T = true) := by show _ = _; rw [← HT.out, decide_eq_true_eq]; exact HV.out (fun j hj => absurd hj (by omega))
      have hy0 : ys.length = 0 := by omega
      rw [h0, hy0]
      clear hz hz' h1 h2
      go_enter Try.func23, Try.ntmps23
      go_wp2_with fail
      go_loopg [5] 0 (fun g i wx => i = .int .i64 0 ∧ w = wx)
      case atStart => exact ⟨rfl, rfl⟩
      case round =>
        obtain ⟨rfl, rfl⟩ := hrel
        go_wp2
        go_ret
        exact ⟨by rw [HF.out]; rfl, 0, rfl⟩
    · obtain ⟨x1, hx1, g1⟩ : ∃ x, a1 = some x ∧ ∀ (i : Nat) (h : i < xs.length), w.cell? (x.add i) = some (.int .u8 (xs[i].toNat : Int)) := by
        rcases h1 with ⟨_, rfl⟩ | h
        · simp at h0
        · exact h
      obtain ⟨x2, hx2, g2⟩ : ∃ x, a2 = some x ∧ ∀ (i : Nat) (h : i < ys.length), w.cell? (x.add i) = some (.int .u8 (ys[i].toNat : Int)) := by
        rcases h2 with ⟨_, rfl⟩ | h
        · rw [hz] at h0; simp at h0
        · exact h
      have H1 : Hid (∀ (i : Nat) (h : i < xs.length), w.cell? (x1.add i) = some (.int .u8 (xs[i].toNat : Int))) := g1
      have H2 : Hid (∀ (i : Nat) (h : i < ys.length), w.cell? (x2.add i) = some (.int .u8 (ys[i].toNat : Int))) := g2
      subst hx1 hx2
      clear h1 h2 g1 g2
      go_enter Try.func23, Try.ntmps23
      go_wp2_with fail
      go_loopg [5] xs.length (fun g i wx => ∃ k : Nat, k + g = xs.length ∧ i = .int .i64 k ∧ (∃ n, wx = w.drewN n) ∧ ∀ j, j < k → xs[j]? = ys[j]?)
      case atStart => exact ⟨0, by omega, rfl, ⟨0, rfl⟩, fun j h => absurd h (by omega)⟩
      case round =>
        obtain ⟨k, hkg, rfl, ⟨n, rfl⟩, hn⟩ := hrel
        have HN : Hid (∀ j, j < k → xs[j]? = ys[j]?) := hn
        clear hn
        by_cases hlt : k < xs.length
        · have hlty : k < ys.length := by omega
          have e1 := H1.out k hlt
          have e2 := H2.out k hlty
          have g1 : xs[k]? = some xs[k] := List.getElem?_eq_getElem hlt
          have g2 : ys[k]? = some ys[k] := List.getElem?_eq_getElem hlty
          generalize xs[k] = cx at *
          generalize ys[k] = cy at *
          have G : Hid (xs[k]? = some cx ∧ ys[k]? = some cy) := ⟨g1, g2⟩
          clear g1 g2
          by_cases he : cx = cy
          · have n1 : ((cx.toNat : Int) != (cy.toNat : Int)) = false := by rw [u8_ne]; simp [he]
            have HE : Hid (cx = cy) := he
            clear he
            go_upto_region 6 with fail
            go_region
            all_goals go_wp2
            go_roundg (gk - 1)
            case measure => omega
            case rel =>
              refine ⟨k + 1, by omega, by go_num, ⟨_, rfl⟩, ?_⟩
              intro j hj
              by_cases hjk : j < k
              · exact HN.out j hjk
              · obtain rfl : j = k := by omega
                rw [G.out.1, G.out.2, HE.out]
          · have n1 : ((cx.toNat : Int) != (cy.toNat : Int)) = true := by rw [u8_ne]; simp [he]
            have HF : Hid (T = false) := by
              show _ = _
              rw [← HT.out, decide_eq_false_iff_not]
              intro e
              have := G.out
              rw [e, this.2] at this
              exact he (Option.some.inj this.1).symm
            clear he
            go_upto_region 6 with fail
            go_region
            all_goals go_wp2
            go_ret
            exact ⟨by rw [HF.out]; rfl, _, rfl⟩
        · have HF : Hid (T = true) := by
            show _ = _
            rw [← HT.out, decide_eq_true_eq]
            exact HV.out (fun j hj => HN.out j (by omega))
          go_wp2
          go_ret
          exact ⟨by rw [HF.out]; rfl, n, rfl⟩
  · have HF : Hid (decide (xs = ys) = false) := by
      show _ = _
      rw [decide_eq_false_iff_not]
      intro e
      exact hz (congrArg List.length e)
    have hz' : ¬ (xs.length : Int) = (ys.length : Int) := by omega
    go_enter Try.func23, Try.ntmps23
    go_wp2
    go_ret
    exact ⟨by rw [HF.out]; rfl, 0, rfl⟩
end Go.Proofs.Qxb6001093a
