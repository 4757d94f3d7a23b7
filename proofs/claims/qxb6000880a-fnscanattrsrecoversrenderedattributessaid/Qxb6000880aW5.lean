import Derived.Test.Qxb6000880aW4
set_option linter.unusedSimpArgs false
set_option linter.unusedVariables false
namespace Go.Proofs.Qxb6000880a
open Go.RowKit

theorem index_any (gT : Nat) (T : Bs) (i : Nat) (q : UInt8) (val rest : Bs) (w : World) (hT : TX w gT T) (hd1 : T.drop (i + 1) = val ++ q :: rest) (hv : q ∉ val) (c : Nat) :
    Calls Try.prog 39 #[.slice (some ⟨gT, i + 1, none⟩) (T.length - (i + 1)) c, .int .u8 (q.toNat : Int)] w fun e w' => e = .returned (.int .i64 (val.length : Nat)) ∧ w' = w := by
  have hsz : (ByteArray.mk (T.drop (i + 1)).toArray).size = T.length - (i + 1) := by show (T.drop _).toArray.size = _; simp
  have hLB : Lib.Bytes w gT (i + 1) ⟨(T.drop (i + 1)).toArray⟩ := by
    intro j hj
    have hj' : j < (T.drop (i + 1)).length := by rw [hsz] at hj; simpa using hj
    have hj2 : i + 1 + j < T.length := by simp at hj'; omega
    rw [hT _ hj2]
    congr 3
    show _ = ((T.drop (i + 1)).toArray[j]).toNat
    simp
  have hh := Try.bytes_IndexByte_bytes gT (i + 1) c ⟨(T.drop (i + 1)).toArray⟩ (q.toNat : Int) w hLB
  rw [hsz] at hh
  have hx : Lib.indexByte (val ++ q :: rest) q = (val.length : Nat) := by
    refine ixb _ q _ (by simp) ?_
    intro j hj e
    rw [List.getElem?_append_left hj] at e
    exact hv (List.mem_of_getElem? e)
  have e1 : (T.drop (i + 1)).toArray.toList = val ++ q :: rest := by rw [hd1]
  have e2 : ((q.toNat : Int).toNat.toUInt8) = q := by simp
  refine hh.mono ?_
  rintro e w' ⟨rfl, rfl⟩
  refine ⟨?_, rfl⟩
  show Ending.returned (.int .i64 (Lib.indexByte (T.drop (i + 1)).toArray.toList ((q.toNat : Int).toNat.toUInt8))) = _
  rw [e1, e2, hx]

set_option maxHeartbeats 400000 in
/-- 'scanValue' at a quote -/
theorem scanValue_q (gT cT : Nat) (T : Bs) (i : Nat) (q : UInt8) (val rest : Bs) (w : World) (hT : TX w gT T) (hl : T.length ≤ 100000000) (hcT : T.length ≤ cT) (hi : i ≤ T.length) (hq : q = 34 ∨ q = 39) (hd : T.drop i = q :: (val ++ q :: rest)) (hv : q ∉ val) :
    Calls Try.prog 37 #[.slice (some ⟨gT, 0, none⟩) T.length cT, .int .i64 (i : Int)] w fun e w' => e = .returned (.tuple #[.int .i64 ((i + 1 : Nat) : Int), .int .i64 ((i + 1 + val.length : Nat) : Int), .int .u8 (q.toNat : Int), .int .i64 ((i + 2 + val.length : Nat) : Int)]) ∧ w' = w := by
  have hlen := drop_len hd hi
  simp only [List.length_cons, List.length_append] at hlen
  obtain ⟨h0, g0⟩ := drop_get hd 0 (by simp)
  simp only [Nat.add_zero, List.getElem_cons_zero] at h0 g0
  have hcell := hT i h0
  rw [g0] at hcell
  have hd1 : T.drop (i + 1) = val ++ q :: rest := by rw [← List.drop_drop, hd]; rfl
  have hix := index_any gT T i q val rest w hT hd1 hv
  have hb1 : ((i : Int) + 1) ≤ (T.length : Int) := by omega
  have hb2 : ((i + 1 : Nat) : Int) ≤ (T.length : Int) := by omega
  have hvl : val.length ≤ 100000000 := by omega
  have hvn : ¬ ((val.length : Int) < 0) := by omega
  have hcn : ¬ (cT = i + 1) := by omega
  have HLN : Hid (T.length = i + (val.length + (rest.length + 1) + 1)) := hlen
  clear hd hd1 hT g0 hv hlen
  generalize val.length = vl at *
  rcases hq with hq | hq
  rotate_left
  have n0 : ((q.toNat : Int) == 34) = false := by rw [hq]; rfl
  have n1 : ((q.toNat : Int) == 39) = true := by rw [hq]; rfl
  rotate_left
  have n0 : ((q.toNat : Int) == 34) = true := by rw [hq]; rfl
  have n1 : ((q.toNat : Int) == 39) = false := by rw [hq]; rfl
  all_goals
    clear hq
    go_enter Try.func37, Try.ntmps37
    go_wp2_with (first | (go_at_call 39; refine (hix _).mono ?_; rintro e w2 ⟨rfl, hw2⟩; have hw2 := hw2.symm; subst hw2))
    refine bodyPost_ret (results_tmp4 Try.results37 _ _ _) rfl ?_
    refine ⟨?_, rfl⟩
    have e1 : ((i + 1 : Nat) : Int) = (i : Int) + 1 := by omega
    have e2 : ((i + 1 + vl : Nat) : Int) = (i : Int) + 1 + (vl : Int) := by omega
    have e3 : ((i + 2 + vl : Nat) : Int) = (i : Int) + 2 + (vl : Int) := by omega
    rw [e1, e2, e3]
    rfl
end Go.Proofs.Qxb6000880a
