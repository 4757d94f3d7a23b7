import Derived.Test.Qxb6000880aW3
import Derived.Test.Qxb6000880aShelf
import Derived.Lib.LazyBuf
import Derived.Lib.IndexLaws
set_option linter.unusedSimpArgs false
set_option linter.unusedVariables false
namespace Go.Proofs.Qxb6000880a
open Go.RowKit

theorem cloneS_any (v : Value) (xs : List ByteArray) (w : World) (hv : RD Value.string w v xs) (hl : xs.length ≤ 1000000) :
    Calls Try.prog 21 #[v] w fun e w' => ∃ v', e = .returned v' ∧ RD Value.string w' v' xs ∧ Below w.heap.size w w' := by
  obtain ⟨a, c, rfl, hcap, hv⟩ := hv
  rcases hv with ⟨rfl, rfl, rfl⟩ | ⟨x, rfl, hc⟩
  · have hnl : ∀ w, (binOp .eql 33 (.slice none 0 0) (.slice none 0 0)).run Try.prog w = .ok (.bool true) w := fun w => by simpa using Go.run_eql_slice_nil (P := Try.prog) w 33 9 none 0 0 Try.underlying33
    go_enter Try.func21, Try.ntmps21
    go_wp2
    go_ret
    exact ⟨_, rfl, (OW.nil Value.string w 0 9).reads, Below.refl _ _⟩
  · have hnl : ∀ w, (binOp .eql 33 (.slice (some x) xs.length c) (.slice none 0 0)).run Try.prog w = .ok (.bool false) w := fun w => by simpa using Go.run_eql_slice_nil (P := Try.prog) w 33 9 (some x) xs.length c Try.underlying33
    have hmk := run_make1 t33 (by decide) xs.length xs.length (Nat.le_refl _) (by omega)
    go_enter Try.func21, Try.ntmps21
    go_wp2
    generalize hB : w.heap.size = B at *
    have HBB : Hid (w.heap.size = B) := hB
    have hr0 : VR Value.string (w.alloc (.cells (madeCells #[.string ⟨#[]⟩] xs.length) 9)) 9 B xs.length [] := by rw [← hB]; exact VR.made Value.string w 9 (.string ⟨#[]⟩) xs.length
    have hb0 : Below B w (w.alloc (.cells (madeCells #[.string ⟨#[]⟩] xs.length) 9)) := by rw [← hB]; exact (Below.refl _ _).alloc (Nat.le_refl _) _
    clear hB
    generalize w.alloc (.cells (madeCells #[.string ⟨#[]⟩] xs.length) 9) = w1 at *
    go_loopg [4] xs.length (fun g i wx => ∃ k : Nat, k + g = xs.length ∧ i = .int .i64 k ∧ VR Value.string wx 9 B xs.length (xs.take k) ∧ Below B w wx)
    case atStart => exact ⟨0, by omega, rfl, by simpa using hr0, hb0⟩
    case round =>
      obtain ⟨k, hkg, rfl, hr, hb⟩ := hrel
      by_cases hlt : k < xs.length
      · have hlk : (xs.take k).length = k := by simp; omega
        have hxk := hc k hlt
        have hxb : (x.add k).block < B := by rw [← HBB.out]; exact World.block_lt_of_cell? w _ hxk
        have hx1 : wr.cell? (x.add k) = some (.string xs[k]) := by rw [hb.cell hxb]; exact hxk
        obtain ⟨v0, hv0⟩ := hr.ex k hlt
        have hth := hr.thaw k
        have hpush : VR Value.string (wr.setCell ⟨B, k, none⟩ (.string xs[k])) 9 B xs.length (xs.take (k + 1)) := by
          have := hr.push (by omega) xs[k]
          rw [hlk, ← take_snoc xs k hlt] at this
          exact this
        have hbn := hb.setCell (p := ⟨B, k, none⟩) (Nat.le_refl _) (.string xs[k])
        go_wp2
        go_roundg (gk - 1)
        case measure => omega
        case rel => exact ⟨k + 1, by omega, by go_num, hpush, hbn⟩
      · obtain rfl : k = xs.length := by omega
        rw [List.take_length] at hr
        go_wp2
        go_ret
        exact ⟨_, rfl, (hr.own B (Nat.le_refl _) (by omega)).reads, by rw [HBB.out]; exact hb⟩

theorem cloneU_any (v : Value) (xs : List UInt8) (w : World) (hv : RD u8v w v xs) (hl : xs.length ≤ 1000000) :
    Calls Try.prog 10 #[v] w fun e w' => ∃ v', e = .returned v' ∧ RD u8v w' v' xs ∧ Below w.heap.size w w' := by
  obtain ⟨a, c, rfl, hcap, hv⟩ := hv
  rcases hv with ⟨rfl, rfl, rfl⟩ | ⟨x, rfl, hc⟩
  · have hnl : ∀ w, (binOp .eql 22 (.slice none 0 0) (.slice none 0 0)).run Try.prog w = .ok (.bool true) w := fun w => by simpa using Go.run_eql_slice_nil (P := Try.prog) w 22 5 none 0 0 Try.underlying22
    go_enter Try.func10, Try.ntmps10
    go_wp2
    go_ret
    exact ⟨_, rfl, (OW.nil u8v w 0 5).reads, Below.refl _ _⟩
  · have hnl : ∀ w, (binOp .eql 22 (.slice (some x) xs.length c) (.slice none 0 0)).run Try.prog w = .ok (.bool false) w := fun w => by simpa using Go.run_eql_slice_nil (P := Try.prog) w 22 5 (some x) xs.length c Try.underlying22
    have hmk := run_make1 t22 (by decide) xs.length xs.length (Nat.le_refl _) (by omega)
    unfold u8v at hc
    go_enter Try.func10, Try.ntmps10
    go_wp2
    generalize hB : w.heap.size = B at *
    have HBB : Hid (w.heap.size = B) := hB
    have hr0 : VR u8v (w.alloc (.cells (madeCells #[.int .u8 0] xs.length) 5)) 5 B xs.length [] := by rw [← hB]; exact VR.made u8v w 5 (.int .u8 0) xs.length
    have hb0 : Below B w (w.alloc (.cells (madeCells #[.int .u8 0] xs.length) 5)) := by rw [← hB]; exact (Below.refl _ _).alloc (Nat.le_refl _) _
    clear hB
    generalize w.alloc (.cells (madeCells #[.int .u8 0] xs.length) 5) = w1 at *
    go_loopg [4] xs.length (fun g i wx => ∃ k : Nat, k + g = xs.length ∧ i = .int .i64 k ∧ VR u8v wx 5 B xs.length (xs.take k) ∧ Below B w wx)
    case atStart => exact ⟨0, by omega, rfl, by simpa using hr0, hb0⟩
    case round =>
      obtain ⟨k, hkg, rfl, hr, hb⟩ := hrel
      by_cases hlt : k < xs.length
      · have hlk : (xs.take k).length = k := by simp; omega
        have hxk := hc k hlt
        have hxb : (x.add k).block < B := by rw [← HBB.out]; exact World.block_lt_of_cell? w _ hxk
        have hx1 : wr.cell? (x.add k) = some (.int .u8 (xs[k].toNat : Int)) := by rw [hb.cell hxb]; exact hxk
        obtain ⟨v0, hv0⟩ := hr.ex k hlt
        have hth := hr.thaw k
        have hpush : VR u8v (wr.setCell ⟨B, k, none⟩ (.int .u8 (xs[k].toNat : Int))) 5 B xs.length (xs.take (k + 1)) := by
          have := hr.push (by omega) xs[k]
          rw [hlk, ← take_snoc xs k hlt] at this
          exact this
        have hbn := hb.setCell (p := ⟨B, k, none⟩) (Nat.le_refl _) (.int .u8 (xs[k].toNat : Int))
        go_wp2
        go_roundg (gk - 1)
        case measure => omega
        case rel => exact ⟨k + 1, by omega, by go_num, hpush, hbn⟩
      · obtain rfl : k = xs.length := by omega
        rw [List.take_length] at hr
        go_wp2
        go_ret
        exact ⟨_, rfl, (hr.own B (Nat.le_refl _) (by omega)).reads, by rw [HBB.out]; exact hb⟩

theorem cloneB_any (v : Value) (xs : List Bool) (w : World) (hv : RD Value.bool w v xs) (hl : xs.length ≤ 1000000) :
    Calls Try.prog 22 #[v] w fun e w' => ∃ v', e = .returned v' ∧ RD Value.bool w' v' xs ∧ Below w.heap.size w w' := by
  obtain ⟨a, c, rfl, hcap, hv⟩ := hv
  rcases hv with ⟨rfl, rfl, rfl⟩ | ⟨x, rfl, hc⟩
  · have hnl : ∀ w, (binOp .eql 34 (.slice none 0 0) (.slice none 0 0)).run Try.prog w = .ok (.bool true) w := fun w => by simpa using Go.run_eql_slice_nil (P := Try.prog) w 34 4 none 0 0 Try.underlying34
    go_enter Try.func22, Try.ntmps22
    go_wp2
    go_ret
    exact ⟨_, rfl, (OW.nil Value.bool w 0 4).reads, Below.refl _ _⟩
  · have hnl : ∀ w, (binOp .eql 34 (.slice (some x) xs.length c) (.slice none 0 0)).run Try.prog w = .ok (.bool false) w := fun w => by simpa using Go.run_eql_slice_nil (P := Try.prog) w 34 4 (some x) xs.length c Try.underlying34
    have hmk := run_make1 t34 (by decide) xs.length xs.length (Nat.le_refl _) (by omega)
    go_enter Try.func22, Try.ntmps22
    go_wp2
    generalize hB : w.heap.size = B at *
    have HBB : Hid (w.heap.size = B) := hB
    have hr0 : VR Value.bool (w.alloc (.cells (madeCells #[.bool false] xs.length) 4)) 4 B xs.length [] := by rw [← hB]; exact VR.made Value.bool w 4 (.bool false) xs.length
    have hb0 : Below B w (w.alloc (.cells (madeCells #[.bool false] xs.length) 4)) := by rw [← hB]; exact (Below.refl _ _).alloc (Nat.le_refl _) _
    clear hB
    generalize w.alloc (.cells (madeCells #[.bool false] xs.length) 4) = w1 at *
    go_loopg [4] xs.length (fun g i wx => ∃ k : Nat, k + g = xs.length ∧ i = .int .i64 k ∧ VR Value.bool wx 4 B xs.length (xs.take k) ∧ Below B w wx)
    case atStart => exact ⟨0, by omega, rfl, by simpa using hr0, hb0⟩
    case round =>
      obtain ⟨k, hkg, rfl, hr, hb⟩ := hrel
      by_cases hlt : k < xs.length
      · have hlk : (xs.take k).length = k := by simp; omega
        have hxk := hc k hlt
        have hxb : (x.add k).block < B := by rw [← HBB.out]; exact World.block_lt_of_cell? w _ hxk
        have hx1 : wr.cell? (x.add k) = some (.bool xs[k]) := by rw [hb.cell hxb]; exact hxk
        obtain ⟨v0, hv0⟩ := hr.ex k hlt
        have hth := hr.thaw k
        have hpush : VR Value.bool (wr.setCell ⟨B, k, none⟩ (.bool xs[k])) 4 B xs.length (xs.take (k + 1)) := by
          have := hr.push (by omega) xs[k]
          rw [hlk, ← take_snoc xs k hlt] at this
          exact this
        have hbn := hb.setCell (p := ⟨B, k, none⟩) (Nat.le_refl _) (.bool xs[k])
        go_wp2
        go_roundg (gk - 1)
        case measure => omega
        case rel => exact ⟨k + 1, by omega, by go_num, hpush, hbn⟩
      · obtain rfl : k = xs.length := by omega
        rw [List.take_length] at hr
        go_wp2
        go_ret
        exact ⟨_, rfl, (hr.own B (Nat.le_refl _) (by omega)).reads, by rw [HBB.out]; exact hb⟩


def TX (w : World) (gT : Nat) (T : Bs) : Prop := ∀ (i : Nat) (h : i < T.length), w.cell? ⟨gT, i, none⟩ = some (.int .u8 (T[i].toNat : Int))
theorem drop_get {α : Type} {T l : List α} {i : Nat} (h : T.drop i = l) (j : Nat) (hj : j < l.length) : ∃ h' : i + j < T.length, T[i + j] = l[j] := by
  subst h
  have h' : i + j < T.length := by simp at hj; omega
  exact ⟨h', by simp⟩
theorem drop_len {α : Type} {T l : List α} {i : Nat} (h : T.drop i = l) (hi : i ≤ T.length) : T.length = i + l.length := by
  subst h; simp; omega
theorem ixb (l : Bs) (c : UInt8) (o : Nat) (h1 : l[o]? = some c) (h2 : ∀ j, j < o → l[j]? ≠ some c) : Lib.indexByte l c = o := by
  have hge := Lib.indexByte_ge l c
  by_cases h : Lib.indexByte l c = -1
  · exact absurd h1 (Lib.indexByte_none h o)
  · obtain ⟨m, hm⟩ := Int.eq_ofNat_of_zero_le (show 0 ≤ Lib.indexByte l c by omega)
    obtain ⟨e1, e2⟩ := Lib.indexByte_some hm
    rw [hm]
    rcases Nat.lt_trichotomy m o with h3 | h3 | h3
    · exact absurd e1 (h2 m h3)
    · rw [h3]
    · exact absurd h1 (e2 o h3)
theorem results_tmp4 {fn : Func} {t u v x : Tmp} (h : fn.results = #[.tmp t, .tmp u, .tmp v, .tmp x]) (tmps : Array Value) (P : Program) (w : World) :
    (results fn tmps).run P w = .ok (.tuple #[tmps.getD t undef, tmps.getD u undef, tmps.getD v undef, tmps.getD x undef]) w := by
  simp [results, h]

set_option maxHeartbeats 2000000 in
/-- 'scanValue' at no quote -/
theorem scanValue_u (gT cT : Nat) (T : Bs) (i : Nat) (val rest : Bs) (c : UInt8) (w : World) (hT : TX w gT T) (hl : T.length ≤ 100000000) (hcT : T.length ≤ cT) (hi : i ≤ T.length) (hd : T.drop i = val ++ c :: rest)
    (h1 : val ≠ []) (h2 : val.head? ≠ some 34) (h3 : val.head? ≠ some 39) (h4 : ∀ d ∈ val, badV d = false) (h5 : badV c = true) :
    Calls Try.prog 37 #[.slice (some ⟨gT, 0, none⟩) T.length cT, .int .i64 (i : Int)] w fun e w' => e = .returned (.tuple #[.int .i64 (i : Int), .int .i64 ((i + val.length : Nat) : Int), .int .u8 0, .int .i64 ((i + val.length : Nat) : Int)]) ∧ w' = w := by
  have hs := fun c w => isSpace_any c w
  have hlen := drop_len hd hi
  simp only [List.length_cons, List.length_append] at hlen
  have HV : Hid (∀ (j : Nat), j < val.length → ∃ d : UInt8, w.cell? ⟨gT, i + j, none⟩ = some (.int .u8 (d.toNat : Int)) ∧ badV d = false) := by
    intro j hj
    obtain ⟨h', g⟩ := drop_get hd j (by simp; omega)
    rw [List.getElem_append_left hj] at g
    exact ⟨val[j], by rw [hT _ h', g], h4 _ (List.getElem_mem hj)⟩
  have HC : Hid (w.cell? ⟨gT, i + val.length, none⟩ = some (.int .u8 (c.toNat : Int))) := by
    obtain ⟨h', g⟩ := drop_get hd val.length (by simp)
    rw [List.getElem_append_right (Nat.le_refl _)] at g
    simp at g
    show _ = _
    rw [hT _ h', g]
  obtain ⟨d0, hd0, hne1, hne2⟩ : ∃ d : UInt8, w.cell? ⟨gT, i, none⟩ = some (.int .u8 (d.toNat : Int)) ∧ d ≠ 34 ∧ d ≠ 39 := by
    cases val with
    | nil => exact absurd rfl h1
    | cons d t =>
      obtain ⟨h', g⟩ := drop_get hd 0 (by simp)
      simp at g h'
      exact ⟨d, by rw [hT _ h', g], fun e => h2 (by rw [e]; rfl), fun e => h3 (by rw [e]; rfl)⟩
  have n0 : ((d0.toNat : Int) == 34) = false := tst hne1
  have n1 : ((d0.toNat : Int) == 39) = false := tst hne2
  have hvp : 0 < val.length := List.length_pos_iff.2 h1
  have hiT : i < T.length := by omega
  have hvT : i + val.length < T.length := by omega
  clear hd h2 h3 h4 hT hne1 hne2 hlen h1
  go_enter Try.func37, Try.ntmps37
  go_wp2_with fail
  go_loopg [5] val.length (fun g p wx => ∃ k : Nat, k + g = val.length ∧ p = .int .i64 ((i + k : Nat) : Int) ∧ w = wx)
  case atStart => exact ⟨0, by omega, rfl, rfl⟩
  case round =>
    obtain ⟨k, hkg, rfl, rfl⟩ := hrel
    have hkT : i + k < T.length := by omega
    by_cases hlt : k < val.length
    · obtain ⟨d, hcell, hbad⟩ := HV.out k hlt
      have hst := hs d
      have hsp : sp d = false := by unfold badV at hbad; simp at hbad; exact hbad.1
      have m1 : ((d.toNat : Int) != 62) = true := by have := u8_ne d 62; unfold badV at hbad; simp at hbad; simpa [hbad.2] using this
      rw [hsp] at hst
      clear hbad hsp hs
      go_wp2_with (first | (go_at_call 36; refine (hst _).mono ?_; rintro e w2 ⟨rfl, hw2⟩; have hw2 := hw2.symm; subst hw2))
      go_roundg (gk - 1)
      case measure => omega
      case rel => exact ⟨k + 1, by omega, by go_num, rfl⟩
    · obtain rfl : k = val.length := by omega
      have hcell := HC.out
      have hst := hs c
      cases hsp : sp c with
      | true =>
        rw [hsp] at hst
        clear h5 hs hsp
        go_wp2_with (first | (go_at_call 36; refine (hst _).mono ?_; rintro e w2 ⟨rfl, hw2⟩; have hw2 := hw2.symm; subst hw2))
        refine bodyPost_ret (results_tmp4 Try.results37 _ _ _) rfl ?_
        exact ⟨rfl, rfl⟩
      | false =>
        rw [hsp] at hst
        have m1 : ((c.toNat : Int) != 62) = false := by rw [show c = 62 by unfold badV at h5; simpa [hsp] using h5]; rfl
        clear h5 hs hsp
        go_wp2_with (first | (go_at_call 36; refine (hst _).mono ?_; rintro e w2 ⟨rfl, hw2⟩; have hw2 := hw2.symm; subst hw2))
        refine bodyPost_ret (results_tmp4 Try.results37 _ _ _) rfl ?_
        exact ⟨rfl, rfl⟩
end Go.Proofs.Qxb6000880a
