import Derived.Test.Qxb6000768aY1
import Derived.Deep.RegionHeld3
import Derived.Deep.DrawnRows
set_option linter.unusedSimpArgs false
set_option linter.unusedVariables false
attribute [local go_sem ↓] Go.wp_at_zero Go.wp_at_succ
namespace Go.Proofs.Qxb6000768a
open Go.RowKit

theorem merge_len (R : PRef) (rp : Bs) : (merge R rp).length ≤ R.path.length + rp.length + 1 := by
  unfold merge
  have := upSlash_len R.path
  split <;> simp <;> omega

theorem zzMerge_any (R : PRef) (rp : Bs) (hl : R.path.length ≤ 10000000) (hr : rp.length ≤ 10000000) (w : World) :
    Calls Try.prog 37 #[.agg (zrCells R.scheme R.authority R.path R.query R.hs R.ha R.hq), .string (S rp)] w fun e w' => e = .returned (.string (S (merge R rp))) ∧ Below w.heap.size w w' := by
  obtain ⟨M, HM⟩ : ∃ M, Hid (M = merge R rp) := ⟨_, rfl⟩
  rw [← HM.out]
  have hpt := toList_nil R.path
  have hpt2 : (S R.path).toList.isEmpty = R.path.isEmpty := by rw [ByteArray.toList_eq, S_data]
  have z2 : (S R.path).size ≤ 10000000 := by rw [S_size]; exact hl
  have z3 : (S rp).size ≤ 10000000 := by rw [S_size]; exact hr
  have hbl := Blk.new w (zrCells R.scheme R.authority R.path R.query R.hs R.ha R.hq) 27
  unfold zrCells at hbl ⊢
  by_cases hc : R.ha = true ∧ R.path = []
  · have HF : Hid (M = 47 :: rp) := by show _ = _; rw [HM.out]; unfold merge; rw [if_pos hc]
    obtain ⟨h1, h2⟩ := hc
    rw [h2] at hpt hpt2
    simp only [List.isEmpty_nil] at hpt hpt2
    rw [h1, h2]
    go_enter Try.func37, Try.ntmps37
    go_wp2
    go_ret
    refine ⟨?_, by repeat (first | exact Below.refl _ _ | exact Nat.le_refl _ | apply Below.drew | apply Below.alloc)⟩
    rw [HF.out]
    exact congrArg Ending.returned (str_eq (by simp [S]))
  · have HF : Hid (M = upSlash R.path ++ rp) := by show _ = _; rw [HM.out]; unfold merge; rw [if_neg hc]
    obtain ⟨pe, HPE⟩ : ∃ pe : Bool, Hid (pe = R.path.isEmpty) := ⟨_, rfl⟩
    rw [← HPE.out] at hpt hpt2
    have hand : (R.ha && pe) = false := by
      rw [HPE.out]
      cases hh : R.ha with
      | false => rfl
      | true =>
        cases hp : R.path with
        | nil => exact absurd ⟨hh, hp⟩ hc
        | cons a t => rfl
    clear hc
    obtain ⟨c0, c1, c2, c3, c4, c5, c6, c7⟩ := zrAll (show Blk _ w.heap.size (zrCells R.scheme R.authority R.path R.query R.hs R.ha R.hq) 27 from hbl)
    clear hbl
    have hup := upSlash_len R.path
    have hut : R.path.take (upSlash R.path).length = upSlash R.path := by
      by_cases h : (47 : UInt8) ∈ R.path
      · obtain ⟨a, b, hab, hb⟩ := split_last R.path h
        rw [hab, upSlash_at a b hb]
        simp [List.take_append, List.take_of_length_le]
      · rw [upSlash_none _ h]; rfl
    have hli := fun w => zzLastIndexByte_any (S R.path) (by omega) w
    rw [S_data] at hli
    have HUT : Hid (R.path.take (upSlash R.path).length = upSlash R.path) := hut
    clear hut
    have HU2 : Hid (M = R.path.take (upSlash R.path).length ++ rp) := by show _ = _; rw [HF.out, HUT.out]
    clear HF HUT
    generalize (upSlash R.path).length = kk at *
    have hkz : (kk : Int) ≤ ((S R.path).size : Int) := by rw [S_size]; omega
    have hw1 : IntKind.i64.wrap ((kk : Int) - 1 + 1) = (kk : Int) := by rw [Int.sub_add_cancel]; exact wrap_small _ (by omega) (by omega)
    have hw2 : IntKind.i64.wrap (kk : Int) = (kk : Int) := wrap_small _ (by omega) (by omega)
    have zx : ((S R.path).extract 0 kk).size ≤ 10000000 := Nat.le_trans (ext_le _ _ _) z2
    have hfin : Below w.heap.size w (w.alloc (.cells #[.string (S R.scheme), .string (S R.authority), .string (S R.path), .string (S R.query), .bool R.hs, .bool R.ha, .bool R.hq] 27)) := (Below.refl _ _).alloc (Nat.le_refl _) _
    go_enter Try.func37, Try.ntmps37
    go_upto_region 1 with fail
    generalize w.alloc (.cells #[.string (S R.scheme), .string (S R.authority), .string (S R.path), .string (S R.query), .bool R.hs, .bool R.ha, .bool R.hq] 27) = w1 at *
    generalize hB : w.heap.size = B at *
    generalize Value.agg #[.string (S R.scheme), .string (S R.authority), .string (S R.path), .string (S R.query), .bool R.hs, .bool R.ha, .bool R.hq] = ag at *
    go_cut [11] (fun b wx => b = .bool false ∧ w1 = wx)
    case first =>
      cases hha : R.ha with
      | false =>
        go_wp2
        go_meet
        exact ⟨rfl, rfl⟩
      | true =>
        rw [hha] at hand
        have hpf : pe = false := by simpa using hand
        subst hpf
        clear hand
        go_wp2
        go_meet
        exact ⟨rfl, rfl⟩
    case rest =>
      obtain ⟨rfl, rfl⟩ := hcut
      clear hand hpt hpt2
      go_upto_region 3 with fail
      go_quiet ((go_at_call 48; exact (hli _).mono (fun _ _ h => ⟨h.1, _, h.2⟩)))
      go_wp2
      go_ret
      refine ⟨?_, by rw [hB]; exact below_drewN hfin _⟩
      rw [HU2.out]
      exact congrArg Ending.returned (str_eq (by simp [ext_take, S]))
end Go.Proofs.Qxb6000768a
