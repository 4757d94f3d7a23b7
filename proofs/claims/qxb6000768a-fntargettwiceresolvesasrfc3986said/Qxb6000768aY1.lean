import Derived.Test.Qxb6000768aX8
set_option linter.unusedSimpArgs false
set_option linter.unusedVariables false
namespace Go.Proofs.Qxb6000768a
open Go.RowKit

theorem upSlash_is (l : Bs) (k : Nat) (hk : k ≤ l.length) (hn : ∀ j, k ≤ j → j < l.length → l[j]? ≠ some 47) (he : k = 0 ∨ l[k - 1]? = some 47) : (upSlash l).length = k ∧ l.take k = upSlash l := by
  have hno : (47 : UInt8) ∉ l.drop k := by
    intro hm
    obtain ⟨j, hj, e⟩ := List.mem_iff_getElem.1 hm
    simp at hj e
    apply hn (k + j) (by omega) (by omega)
    rw [List.getElem?_eq_getElem (by omega), e]
  rcases Nat.eq_zero_or_pos k with rfl | h0
  · rw [upSlash_none l (by simpa using hno)]; simp
  · rcases he with he | he
    · omega
    · have hlt : k - 1 < l.length := by omega
      rw [List.getElem?_eq_getElem hlt] at he
      have hs : l = l.take (k - 1) ++ 47 :: l.drop k := by
        conv => lhs; rw [← List.take_append_drop (k - 1) l, List.drop_eq_getElem_cons hlt, Option.some.inj he]
        rw [show k - 1 + 1 = k by omega]
      have hu : upSlash l = l.take (k - 1) ++ [47] := by
        conv => lhs; rw [hs]
        exact upSlash_at _ _ hno
      have ht : l.take k = l.take (k - 1) ++ [47] := by
        have := List.take_succ_eq_append_getElem hlt
        rw [show k - 1 + 1 = k by omega, Option.some.inj he] at this
        exact this
      exact ⟨by rw [hu]; simp; omega, by rw [hu, ht]⟩

theorem zzLastIndexByte_any (s : ByteArray) (hs : s.size ≤ 100000000) (w : World) :
    Calls Try.prog 48 #[.string s, .int .u8 47] w fun e w' => e = .returned (.int .i64 (((upSlash s.data.toList).length : Int) - 1)) ∧ w' = w := by
  have HV : Hid (∀ k : Nat, k ≤ s.size → (∀ j, k ≤ j → j < s.size → s.data.toList[j]? ≠ some 47) → (k = 0 ∨ s.data.toList[k - 1]? = some 47) → (upSlash s.data.toList).length = k) := fun k h1 h2 h3 => (upSlash_is _ k (by rw [blen]; exact h1) (by rw [blen]; exact h2) h3).1
  generalize hu : (upSlash s.data.toList).length = u at *
  clear hu
  go_enter Try.func48, Try.ntmps48
  go_wp2
  go_loopg [5] s.size (fun g i wx => g ≤ s.size ∧ w = wx ∧ (∀ j, g ≤ j → j < s.size → s.data.toList[j]? ≠ some 47) ∧ ((g = 0 ∧ i = .int .i64 (-1)) ∨ ∃ m : Nat, g = m + 1 ∧ i = .int .i64 m))
  case atStart =>
    refine ⟨Nat.le_refl _, rfl, fun j h1 h2 => absurd h1 (by omega), ?_⟩
    rcases Nat.eq_zero_or_pos s.size with h | h
    · exact .inl ⟨h, by rw [h]; rfl⟩
    · exact .inr ⟨s.size - 1, by omega, by congr 1; omega⟩
  case round =>
    obtain ⟨hg, rfl, hn, hc⟩ := hrel
    have HN : Hid (∀ j, gk ≤ j → j < s.size → s.data.toList[j]? ≠ some 47) := hn
    clear hn
    rcases hc with ⟨h0, rfl⟩ | ⟨m, hm, rfl⟩
    · have HF : Hid (u = 0) := (HV.out 0 (by omega) (by rw [← h0]; exact HN.out) (.inl rfl))
      clear h0
      go_wp2
      go_ret
      exact ⟨by rw [HF.out]; rfl, rfl⟩
    · have hlt : m < s.size := by omega
      have hm0 : (0 : Int) ≤ (m : Int) := by omega
      by_cases h47 : s[m] = 47
      · have n1 := beq47_yes h47
        have HF : Hid (u = m + 1) := (HV.out (m + 1) (by omega) (by rw [← hm]; exact HN.out) (.inr (by show s.data.toList[m]? = _; rw [lget s m hlt, h47])))
        clear h47
        go_wp2
        go_ret
        exact ⟨by rw [HF.out]; show _ = Ending.returned (.int .i64 (((m + 1 : Nat) : Int) - 1)); rw [show ((m + 1 : Nat) : Int) - 1 = (m : Int) by omega]; rfl, rfl⟩
      · have n1 := beq47_no h47
        have HE : Hid (s.data.toList[m]? ≠ some 47) := by show _ ≠ _; rw [lget s m hlt]; simpa using h47
        clear h47
        go_wp2
        go_roundg m
        case measure => omega
        case rel =>
          refine ⟨by omega, rfl, ?_, ?_⟩
          · intro j h1 h2
            by_cases hj : j = m
            · subst hj; exact HE.out
            · exact HN.out j (by omega) h2
          · rcases Nat.eq_zero_or_pos m with h | h
            · exact .inl ⟨h, by subst h; rfl⟩
            · exact .inr ⟨m - 1, by omega, by congr 1; omega⟩

theorem zrAll {w : World} {b : Nat} {sc au pa qu : Bs} {hs ha hq : Bool} (h : Blk w b (zrCells sc au pa qu hs ha hq) 27) :
    w.cell? ⟨b, 0, none⟩ = some (.string (S sc)) ∧ w.cell? ⟨b, 1, none⟩ = some (.string (S au)) ∧ w.cell? ⟨b, 2, none⟩ = some (.string (S pa)) ∧ w.cell? ⟨b, 3, none⟩ = some (.string (S qu)) ∧
    w.cell? ⟨b, 4, none⟩ = some (.bool hs) ∧ w.cell? ⟨b, 5, none⟩ = some (.bool ha) ∧ w.cell? ⟨b, 6, none⟩ = some (.bool hq) ∧ (∀ j, w.frozen? ⟨b, j, none⟩ = false) :=
  ⟨h.cell 0, h.cell 1, h.cell 2, h.cell 3, h.cell 4, h.cell 5, h.cell 6, h.thaw⟩

theorem toList_nil (l : Bs) : ((S l).toList == []) = l.isEmpty := by rw [ByteArray.toList_eq, S_data]; cases l <;> rfl

theorem zzRecompose_any (R : PRef) (hl : R.scheme.length + R.authority.length + R.path.length + R.query.length ≤ 10000000) (w : World) :
    Calls Try.prog 24 #[.agg (zrCells R.scheme R.authority R.path R.query R.hs R.ha R.hq)] w fun e w' => e = .returned (.string (S (quS R))) ∧ Below w.heap.size w w' := by
  have z0 : (S R.scheme).size ≤ 10000000 := by rw [S_size]; omega
  have z1 : (S R.authority).size ≤ 10000000 := by rw [S_size]; omega
  have z2 : (S R.path).size ≤ 10000000 := by rw [S_size]; omega
  have z3 : (S R.query).size ≤ 10000000 := by rw [S_size]; omega
  have HQ : Hid (quS R = R.scheme ++ [58] ++ (if R.ha then [47, 47] ++ R.authority else []) ++ R.path ++ (if R.hq then 63 :: R.query else [])) := rfl
  generalize quS R = Q at *
  have y1 : (S R.scheme ++ ⟨#[58]⟩).size ≤ 10000001 := by rw [app_size]; show _ + 1 ≤ _; omega
  have y2 : (S R.scheme ++ ⟨#[58]⟩ ++ ⟨#[47, 47]⟩).size ≤ 10000003 := by rw [app_size]; show _ + 2 ≤ _; omega
  have y3 : (S R.scheme ++ ⟨#[58]⟩ ++ ⟨#[47, 47]⟩ ++ S R.authority).size ≤ 20000003 := by rw [app_size]; omega
  have y4 : (S R.scheme ++ ⟨#[58]⟩ ++ ⟨#[47, 47]⟩ ++ S R.authority ++ S R.path).size ≤ 30000003 := by rw [app_size]; omega
  have y5 : (S R.scheme ++ ⟨#[58]⟩ ++ S R.path).size ≤ 30000003 := by rw [app_size]; omega
  have y6 : (S R.scheme ++ ⟨#[58]⟩ ++ ⟨#[47, 47]⟩ ++ S R.authority ++ S R.path ++ ⟨#[63]⟩).size ≤ 30000004 := by rw [app_size]; show _ + 1 ≤ _; omega
  have y7 : (S R.scheme ++ ⟨#[58]⟩ ++ S R.path ++ ⟨#[63]⟩).size ≤ 30000004 := by rw [app_size]; show _ + 1 ≤ _; omega
  unfold zrCells
  cases hha : R.ha <;> cases hhq : R.hq
  all_goals
    rw [hha, hhq] at HQ
    clear hl
    go_enter Try.func24, Try.ntmps24
    go_wp2
    go_ret
    refine ⟨?_, by repeat (first | exact Below.refl _ _ | exact Nat.le_refl _ | apply Below.drew | apply Below.alloc)⟩
    rw [HQ.out]
    refine congrArg Ending.returned ?_
    exact str_eq (by simp [S])
end Go.Proofs.Qxb6000768a
