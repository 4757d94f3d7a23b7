import Derived.Test.Qxb6000768aW6
import Derived.Lib.IndexLaws
set_option linter.unusedSimpArgs false
set_option linter.unusedVariables false
namespace Go.Proofs.Qxb6000768a
open Go.RowKit

def dsP (d : Nat) (s : Bool) : Bool := s && d == 2
def dsK (d : Nat) (s l : Bool) : Bool := s && (if d = 0 then true else l)
def dsN (d : Nat) (s : Bool) : Bool := s || d == 0

theorem dotSegment_any (d : Nat) (hd : d ≤ 2) (s l : Bool) (w : World) :
    Calls Try.prog 41 #[.int .i64 d, .bool s, .bool l] w fun e w' => e = .returned (.tuple #[.bool (dsP d s), .bool (dsK d s l), .bool (dsN d s)]) ∧ w' = w := by
  have : d = 0 ∨ d = 1 ∨ d = 2 := by omega
  rcases this with rfl | rfl | rfl <;> cases s <;>
  · go_enter Try.func41, Try.ntmps41
    go_wp2
    go_ret3
    exact ⟨rfl, rfl⟩

/-- in from 'start' on: where the next slash is -/
theorem idx_cases (l : Bs) : (Lib.indexByte l 47 = -1 ∧ (47 : UInt8) ∉ l) ∨ (∃ seg y : Bs, l = seg ++ 47 :: y ∧ (47 : UInt8) ∉ seg ∧ Lib.indexByte l 47 = (seg.length : Int)) := by
  have hge := Lib.indexByte_ge l 47
  by_cases h : Lib.indexByte l 47 = -1
  · left
    refine ⟨h, fun hm => ?_⟩
    obtain ⟨k, hk⟩ := List.getElem?_of_mem hm
    exact Lib.indexByte_none h k hk
  · right
    obtain ⟨n, hn⟩ : ∃ n : Nat, Lib.indexByte l 47 = (n : Int) := ⟨(Lib.indexByte l 47).toNat, by omega⟩
    obtain ⟨h1, h2⟩ := Lib.indexByte_some hn
    have hlt : n < l.length := (List.getElem?_eq_some_iff.1 h1).1
    refine ⟨l.take n, l.drop (n + 1), ?_, ?_, by rw [List.length_take, hn]; congr 1; omega⟩
    · have := (List.getElem?_eq_some_iff.1 h1).2
      rw [← this, ← List.drop_eq_getElem_cons hlt, List.take_append_drop]
    · intro hm
      obtain ⟨k, hk⟩ := List.getElem?_of_mem hm
      rw [List.getElem?_take] at hk
      split at hk
      · exact h2 k (by assumption) hk
      · simp at hk

theorem slice_mid (r : ByteArray) (a b : Nat) (hab : a ≤ b) (hb : b ≤ r.size) (hr : r.size ≤ 100000000) (w : World) :
    (Instr.slice 9 (.string r) (some (.int .i64 (a : Int))) (some (.int .i64 (b : Int))) none).run Try.prog w = .ok (.string (r.extract a b)) w := by
  have h := run_slice_string (P := Try.prog) w 9 r .i64 .i64 (a : Int) (b : Int) Try.underlying9 (by omega) (by omega) (by omega)
  simpa using h
theorem ext_mid (r : ByteArray) (pre seg tl : Bs) (a b : Nat) (h : r.data.toList = pre ++ (seg ++ tl)) (ha : a = pre.length) (hb : b = a + seg.length) : (r.extract a b).data.toList = seg := by
  have e : r = ⟨r.data.toList.toArray⟩ := by cases r; simp
  have h2 : (r.extract a b) = ByteArray.mk ((r.data.toList.drop a).take (b - a)).toArray := by
    conv => lhs; rw [e]
    rw [ByteArray.extract_mk]
  rw [h2, h, ha, List.drop_left, hb, ha, Nat.add_sub_cancel_left, List.take_left]

theorem ext_le (r : ByteArray) (a b : Nat) : (r.extract a b).size ≤ r.size := by
  simp [ByteArray.size_extract]; omega
theorem ext_drop_app (r : ByteArray) (pre tl : Bs) (a : Nat) (h : r.data.toList = pre ++ tl) (ha : a = pre.length) : (r.extract a r.size).data.toList = tl := by
  rw [ext_list, h, ha, List.drop_left]
theorem ext_take_app (r : ByteArray) (pre tl : Bs) (a : Nat) (h : r.data.toList = pre ++ tl) (ha : a = pre.length) : (r.extract 0 a).data.toList = pre := by
  rw [ext_take, h, ha, List.take_left]

theorem flat_tail (ps base : List ByteArray) : (flat (ps.tail ++ base)).length ≤ (flat (ps ++ base)).length := by
  cases ps with
  | nil => exact Nat.le_refl _
  | cons t ts => simp [flat]

theorem ret29 {Q : Ending → World → Prop} {a : Act} {w : World} (hd : a.defers = []) (h : Q (.returned (.tuple #[])) w) : bodyPost Try.prog Try.f29 Q Exit.ret a w :=
  bodyPost_ret (v := .tuple #[]) (by simp [results, Try.results29]) hd h

/-- what holds at the head of read's loop -/
def RInv (w : World) (g fb M : Nat) (base : List ByteArray) (res : Bs) (inp slash : Value) (m : Nat) (wr : World) : Prop :=
  ∃ (r : ByteArray) (sl : Bool) (k : Option Addr) (e0 : Bool) (ps : List ByteArray), inp = .string r ∧ slash = .bool sl ∧ m = 2 * r.size + (if sl then 0 else 1) ∧ Dot wr g k (some ⟨fb, 0, none⟩) e0 ∧ Above wr k ps (some ⟨fb, 0, none⟩) base ∧ Good ps ∧
    (sl = true → ∃ x, r.data.toList = 47 :: x) ∧ (sl = false → ps = []) ∧ RD (flat ps) r.data.toList = res ∧ w.grownBy wr (some g) ∧ (flat (ps ++ base)).length + r.size ≤ M

set_option maxHeartbeats 1000000 in
theorem read_any (g fb : Nat) (k : Option Addr) (ps base : List ByteArray) (s : ByteArray) (e0 : Bool) (w : World) (hd : Dot w g k (some ⟨fb, 0, none⟩) e0) (ha : Above w k ps (some ⟨fb, 0, none⟩) base) (hgood : Good ps)
    (hsl : ps = [] ∨ ∃ x, s.data.toList = 47 :: x) (hn : (flat (ps ++ base)).length + s.size ≤ 10000000) :
    Calls Try.prog 29 #[.pointer (some ⟨g, 0, none⟩), .string s] w fun e w' => e = .returned (.tuple #[]) ∧ ∃ k' e1 ps', Dot w' g k' (some ⟨fb, 0, none⟩) e1 ∧ Above w' k' ps' (some ⟨fb, 0, none⟩) base ∧ Good ps' ∧ flat ps' = RD (flat ps) s.data.toList ∧ w.grownBy w' (some g) := by
  have hpre := Try.strings_HasPrefix s ⟨#[47]⟩
  go_enter Try.func29, Try.ntmps29
  go_wp2_with (go_at_call 39; refine (hpre _).mono ?_; rintro e w ⟨rfl, rfl⟩)
  clear hpre
  go_loopg [1, 4] (2 * s.size + (if Lib.hasPrefix s.data.toList [47] then 0 else 1)) (fun m inp slash wr => RInv w g fb 10000000 base (RD (flat ps) s.data.toList) inp slash m wr)
  case atStart =>
    refine ⟨s, _, k, e0, ps, rfl, rfl, rfl, hd, ha, hgood, ?_, ?_, rfl, World.grownBy.refl _ _, hn⟩
    · intro h
      have h2 : List.isPrefixOf [47] s.data.toList = true := h
      cases hs : s.data.toList with
      | nil => rw [hs] at h2; simp at h2
      | cons c x => rw [hs] at h2; simp [List.isPrefixOf] at h2; exact ⟨x, by rw [h2]⟩
    · intro h
      rcases hsl with h1 | ⟨x, h1⟩
      · exact h1
      · have h2 : List.isPrefixOf [47] s.data.toList = false := h
        rw [h1] at h2; simp [List.isPrefixOf] at h2
  case round =>
    obtain ⟨r, sl, k1, e1, ps1, rfl, rfl, rfl, hd1, ha1, hg1, ht1, hf1, hrd, hgr, hle⟩ := hrel
    clear hd ha hgood hsl hn
    have hrs0 : r.size ≤ 10000000 := by omega
    have hfl : (flat (ps1 ++ base)).length ≤ 100000000 := by omega
    cases sl with
    | true =>
      obtain ⟨x, hx⟩ := ht1 rfl
      rcases idx_cases x with ⟨hi, hno⟩ | ⟨seg, y, hxy, hno, hi⟩
      · have hix : ∀ w, Calls Try.prog 40 #[.string (r.extract 1 r.size), .int .u8 47] w fun e w' => e = .returned (.int .i64 (-1)) ∧ w' = w := by
          intro w
          refine (Try.strings_IndexByte _ 47 w).mono ?_
          rintro e w' ⟨rfl, rfl⟩
          rw [ext_list, hx]
          exact ⟨by rw [← hi]; rfl, rfl⟩
        obtain ⟨seg, rfl⟩ : ∃ seg, x = seg := ⟨x, rfl⟩
        have hl : r.data.toList = [47] ++ (x ++ []) := by rw [hx]; simp
        generalize x = seg at *
        clear hx hi ht1 hf1
        have HL : Hid (r.data.toList = [47] ++ (seg ++ [])) := hl
        have HSZ : Hid (r.size = 1 + (seg.length + ([] : Bs).length)) := by show r.size = _; rw [← blen, hl]; simp <;> omega
        have hbs : r.size ≤ r.size ∧ 1 ≤ r.size := by have := HSZ.out; simp at this; omega
        have HRD : Hid (RD (flat ps1) ([47] ++ (seg ++ [])) = RD (flat ps) s.data.toList) := by have h := hrd; rw [hl] at h; exact h
        have HNO : Hid ((47 : UInt8) ∉ seg) := hno
        obtain ⟨T, hTd⟩ : ∃ T, T = r.extract 1 r.size := ⟨_, rfl⟩
        have HT : Hid (T.data.toList = seg) := by show T.data.toList = seg; rw [hTd]; exact ext_mid r [47] seg [] 1 r.size hl rfl (by have := HSZ.out; simp at this ⊢ <;> omega)
        have hsl := fun w => slice_mid r 1 r.size hbs.2 hbs.1 (by omega) w
        rw [← hTd] at hsl
        simp only [Int.natCast_add, Int.natCast_one, Int.natCast_zero, Int.ofNat_one, Int.cast_ofNat_Int] at hsl
        clear hl hTd hrd hno
        have hfl2 : (flat (ps1.tail ++ base)).length ≤ 100000000 := by have := flat_tail ps1 base; omega
        have hfl3 : (flat (ps1.tail ++ base)).length ≤ (flat (ps1 ++ base)).length := flat_tail ps1 base
        by_cases hseg : seg = []
        · subst hseg
          have hTL : T.toList = [] := by rw [ByteArray.toList_eq]; exact HT.out
          have hTS : T.size = 0 := by rw [← blen, HT.out]; rfl
          have hds : ∀ w, Calls Try.prog 41 #[.int .i64 0, .bool true, .bool true] w fun e w' => e = .returned (.tuple #[.bool false, .bool true, .bool true]) ∧ w' = w := fun w => dotSegment_any 0 (by decide) true true w
          go_wp2_with (first | (go_at_call 40; refine (hix _).mono ?_; rintro e w' ⟨rfl, rfl⟩) | (go_at_call 41; refine (hds _).mono ?_; rintro e w' ⟨rfl, rfl⟩) | (go_at_call 42; refine (push_ab g fb _ ps1 base _ _ _ hd1 ha1 hfl ?_).mono ?_; (first | exact Nat.le_trans (ext_le _ _ _) (by omega) | omega); rintro e w' ⟨rfl, k3, e3, hd3, ha3, hgr3⟩))
          refine ret29 rfl ?_
          have hpe := ext_take_app r [47] ([] ++ []) 1 HL.out rfl
          refine ⟨rfl, k3, e3, _, hd3, ha3, ⟨by rw [hpe]; exact goodP_slash [] (by simp) (by simp) (by simp), .inl (by rw [hpe]; rfl), hg1⟩, ?_, (grownBy_trans hgr hgr3)⟩
          show flat ps1 ++ _ = _
          rw [hpe, ← HRD.out]
          exact (RD_slash _).symm

        by_cases hseg1 : seg = [46]
        · have hseg := hseg1
          clear hseg1
          subst hseg
          have hTL : T.toList = [46] := by rw [ByteArray.toList_eq]; exact HT.out
          have hTS : T.size = 1 := by rw [← blen, HT.out]; rfl
          have hds : ∀ w, Calls Try.prog 41 #[.int .i64 1, .bool true, .bool true] w fun e w' => e = .returned (.tuple #[.bool false, .bool true, .bool true]) ∧ w' = w := fun w => dotSegment_any 1 (by decide) true true w
          go_wp2_with (first | (go_at_call 40; refine (hix _).mono ?_; rintro e w' ⟨rfl, rfl⟩) | (go_at_call 41; refine (hds _).mono ?_; rintro e w' ⟨rfl, rfl⟩) | (go_at_call 42; refine (push_ab g fb _ ps1 base _ _ _ hd1 ha1 hfl ?_).mono ?_; (first | exact Nat.le_trans (ext_le _ _ _) (by omega) | omega); rintro e w' ⟨rfl, k3, e3, hd3, ha3, hgr3⟩))
          refine ret29 rfl ?_
          have hpe := ext_take_app r [47] ([46] ++ []) 1 HL.out rfl
          refine ⟨rfl, k3, e3, _, hd3, ha3, ⟨by rw [hpe]; exact goodP_slash [] (by simp) (by simp) (by simp), .inl (by rw [hpe]; rfl), hg1⟩, ?_, (grownBy_trans hgr hgr3)⟩
          show flat ps1 ++ _ = _
          rw [hpe, ← HRD.out]
          exact (RD_slash_dot_last _).symm
        by_cases hseg2 : seg = [46, 46]
        · have hseg := hseg2
          clear hseg2 hseg1
          subst hseg
          have hTL : T.toList = [46, 46] := by rw [ByteArray.toList_eq]; exact HT.out
          have hTS : T.size = 2 := by rw [← blen, HT.out]; rfl
          have hds : ∀ w, Calls Try.prog 41 #[.int .i64 2, .bool true, .bool true] w fun e w' => e = .returned (.tuple #[.bool true, .bool true, .bool true]) ∧ w' = w := fun w => dotSegment_any 2 (by decide) true true w
          go_wp2_with (first | (go_at_call 40; refine (hix _).mono ?_; rintro e w' ⟨rfl, rfl⟩) | (go_at_call 41; refine (hds _).mono ?_; rintro e w' ⟨rfl, rfl⟩) | (go_at_call 35; refine (pop_ab g fb _ ps1 base _ _ hd1 ha1).mono ?_; rintro e w' ⟨rfl, k2, hd2, ha2, hgr2⟩) | (go_at_call 42; refine (push_ab g fb _ ps1.tail base _ _ _ hd2 ha2 hfl2 ?_).mono ?_; (first | exact Nat.le_trans (ext_le _ _ _) (by omega) | omega); rintro e w' ⟨rfl, k3, e3, hd3, ha3, hgr3⟩))
          refine ret29 rfl ?_
          have hpe := ext_take_app r [47] ([46, 46] ++ []) 1 HL.out rfl
          refine ⟨rfl, k3, e3, _, hd3, ha3, ⟨by rw [hpe]; exact goodP_slash [] (by simp) (by simp) (by simp), .inl (by rw [hpe]; rfl), hg1.tail⟩, ?_, (grownBy_trans (grownBy_trans hgr hgr2) hgr3)⟩
          show flat ps1.tail ++ _ = _
          rw [hpe, ← HRD.out]
          exact ((RD_slash_dots_last _).trans (by rw [hg1.drop])).symm
        have hs0 := hseg
        have hs1 := hseg1
        have hs2 := hseg2
        clear hseg hseg1 hseg2
        have hT0 : T.toList.isEmpty = false := by rw [ByteArray.toList_eq, HT.out]; simpa using hs0
        have hT1 : (T.toList == [46]) = false := by rw [ByteArray.toList_eq, HT.out]; simpa using hs1
        have hT2 : (T.toList == [46, 46]) = false := by rw [ByteArray.toList_eq, HT.out]; simpa using hs2
        have HS : Hid (seg ≠ [] ∧ seg ≠ [46] ∧ seg ≠ [46, 46]) := ⟨hs0, hs1, hs2⟩
        clear hs0 hs1 hs2
        go_wp2_with (first | (go_at_call 40; refine (hix _).mono ?_; rintro e w' ⟨rfl, rfl⟩) | (go_at_call 42; refine (push_ab g fb _ ps1 base _ _ _ hd1 ha1 hfl ?_).mono ?_; (first | exact Nat.le_trans (ext_le _ _ _) (by omega) | omega); rintro e w' ⟨rfl, k3, e3, hd3, ha3, hgr3⟩))
        refine ret29 rfl ?_
        have hpe := (show r.data.toList = [47] ++ seg from by rw [HL.out]; simp)
        refine ⟨rfl, k3, e3, _, hd3, ha3, ⟨by rw [hpe]; exact goodP_slash seg HNO.out HS.out.2.1 HS.out.2.2, .inl (by rw [hpe]; rfl), hg1⟩, ?_, (grownBy_trans hgr hgr3)⟩
        show flat ps1 ++ _ = _
        rw [hpe, ← HRD.out]
        rw [show ([47] ++ (seg ++ []) : Bs) = 47 :: (seg ++ []) from rfl, RD_slash_other _ seg [] HNO.out (.inl rfl) HS.out.2.1 HS.out.2.2, RD_nil]
        rfl
      · have hix : ∀ w, Calls Try.prog 40 #[.string (r.extract 1 r.size), .int .u8 47] w fun e w' => e = .returned (.int .i64 (seg.length : Int)) ∧ w' = w := by
          intro w
          refine (Try.strings_IndexByte _ 47 w).mono ?_
          rintro e w' ⟨rfl, rfl⟩
          rw [ext_list, hx]
          exact ⟨by rw [← hi]; rfl, rfl⟩
        have hl : r.data.toList = [47] ++ (seg ++ 47 :: y) := by rw [hx, hxy]; simp
        clear hx hxy hi ht1 hf1
        have HL : Hid (r.data.toList = [47] ++ (seg ++ (47 :: y))) := hl
        have HSZ : Hid (r.size = 1 + (seg.length + ((47 :: y) : Bs).length)) := by show r.size = _; rw [← blen, hl]; simp <;> omega
        have hbs : (seg.length + 1) ≤ r.size ∧ 1 ≤ (seg.length + 1) := by have := HSZ.out; simp at this; omega
        have HRD : Hid (RD (flat ps1) ([47] ++ (seg ++ (47 :: y))) = RD (flat ps) s.data.toList) := by have h := hrd; rw [hl] at h; exact h
        have HNO : Hid ((47 : UInt8) ∉ seg) := hno
        obtain ⟨T, hTd⟩ : ∃ T, T = r.extract 1 (seg.length + 1) := ⟨_, rfl⟩
        have HT : Hid (T.data.toList = seg) := by show T.data.toList = seg; rw [hTd]; exact ext_mid r [47] seg (47 :: y) 1 (seg.length + 1) hl rfl (by have := HSZ.out; simp at this ⊢ <;> omega)
        have hsl := fun w => slice_mid r 1 (seg.length + 1) hbs.2 hbs.1 (by omega) w
        rw [← hTd] at hsl
        simp only [Int.natCast_add, Int.natCast_one, Int.natCast_zero, Int.ofNat_one, Int.cast_ofNat_Int] at hsl
        clear hl hTd hrd hno
        have hfl2 : (flat (ps1.tail ++ base)).length ≤ 100000000 := by have := flat_tail ps1 base; omega
        have hfl3 : (flat (ps1.tail ++ base)).length ≤ (flat (ps1 ++ base)).length := flat_tail ps1 base
        by_cases hseg : seg = []
        · subst hseg
          have hTL : T.toList = [] := by rw [ByteArray.toList_eq]; exact HT.out
          have hTS : T.size = 0 := by rw [← blen, HT.out]; rfl
          have hsl2 : ∀ w, (Instr.slice 9 (.string r) (some (.int .i64 1)) (some (.int .i64 1)) none).run Try.prog w = .ok (.string T) w := fun w => hsl w
          clear hsl
          have hlit : 2 ≤ r.size := by have h := HSZ.out; simp at h; omega
          have hds : ∀ w, Calls Try.prog 41 #[.int .i64 0, .bool true, .bool false] w fun e w' => e = .returned (.tuple #[.bool false, .bool true, .bool true]) ∧ w' = w := fun w => dotSegment_any 0 (by decide) true false w
          go_wp2_with (first | (go_at_call 40; refine (hix _).mono ?_; rintro e w' ⟨rfl, rfl⟩) | (go_at_call 41; refine (hds _).mono ?_; rintro e w' ⟨rfl, rfl⟩) | (go_at_call 42; refine (push_ab g fb _ ps1 base _ _ _ hd1 ha1 hfl ?_).mono ?_; (first | exact Nat.le_trans (ext_le _ _ _) (by omega) | omega); rintro e w' ⟨rfl, k3, e3, hd3, ha3, hgr3⟩))
          go_roundg (2 * (y.length + 1))
          case measure => have := HSZ.out; simp at this ⊢; omega
          case rel =>
            have hne := ext_drop_app r ([47] ++ []) (47 :: y) (1) (by rw [HL.out]; simp) (rfl)
            have hnl : ((47 :: y : Bs)).length = y.length + 1 := rfl
            have hpe := ext_take_app r [47] ([] ++ (47 :: y)) 1 HL.out rfl
            refine ⟨_, true, k3, _, _, rfl, rfl, ?_, hd3, ha3, ⟨by rw [hpe]; exact goodP_slash [] (by simp) (by simp) (by simp), .inl (by rw [hpe]; rfl), hg1⟩, ?_, ?_, ?_, (grownBy_trans hgr hgr3), ?_⟩
            · rw [← blen, hne]; simp
            · intro _; exact ⟨y, hne⟩
            · intro h; cases h
            · rw [hne, ← HRD.out]
              show RD (flat ps1 ++ _) _ = _
              rw [hpe]
              exact (RD_slash_other _ [] (47 :: y) (by simp) (.inr ⟨y, rfl⟩) (by simp) (by simp)).symm
            · have h1 := HSZ.out
              have h2 := hle
              rw [← blen, hne]
              have h4 : ∀ t : ByteArray, (flat (t :: (ps1 ++ base))).length = (flat (ps1 ++ base)).length + t.data.toList.length := fun t => by simp [flat]
              show (flat (_ :: (_ ++ base))).length + _ ≤ _
              rw [h4, hpe]
              simp at h1 ⊢ <;> omega

        by_cases hseg1 : seg = [46]
        · have hseg := hseg1
          clear hseg1
          subst hseg
          have hTL : T.toList = [46] := by rw [ByteArray.toList_eq]; exact HT.out
          have hTS : T.size = 1 := by rw [← blen, HT.out]; rfl
          have hsl2 : ∀ w, (Instr.slice 9 (.string r) (some (.int .i64 1)) (some (.int .i64 2)) none).run Try.prog w = .ok (.string T) w := fun w => hsl w
          clear hsl
          have hlit : 3 ≤ r.size := by have h := HSZ.out; simp at h; omega
          have hds : ∀ w, Calls Try.prog 41 #[.int .i64 1, .bool true, .bool false] w fun e w' => e = .returned (.tuple #[.bool false, .bool false, .bool true]) ∧ w' = w := fun w => dotSegment_any 1 (by decide) true false w
          go_wp2_with (first | (go_at_call 40; refine (hix _).mono ?_; rintro e w' ⟨rfl, rfl⟩) | (go_at_call 41; refine (hds _).mono ?_; rintro e w' ⟨rfl, rfl⟩))
          go_roundg (2 * (y.length + 1))
          case measure => have := HSZ.out; simp at this ⊢; omega
          case rel =>
            have hne := ext_drop_app r ([47] ++ [46]) (47 :: y) (2) (by rw [HL.out]; simp) (rfl)
            have hnl : ((47 :: y : Bs)).length = y.length + 1 := rfl
            refine ⟨_, true, _, _, _, rfl, rfl, ?_, hd1, ha1, hg1, ?_, ?_, ?_, hgr, ?_⟩
            · rw [← blen, hne]; simp
            · intro _; exact ⟨y, hne⟩
            · intro h; cases h
            · rw [hne, ← HRD.out]
              exact (RD_slash_dot _ y).symm
            · have h1 := HSZ.out
              have h2 := hle
              rw [← blen, hne]
              simp at h1 ⊢ <;> omega
        by_cases hseg2 : seg = [46, 46]
        · have hseg := hseg2
          clear hseg2 hseg1
          subst hseg
          have hTL : T.toList = [46, 46] := by rw [ByteArray.toList_eq]; exact HT.out
          have hTS : T.size = 2 := by rw [← blen, HT.out]; rfl
          have hsl2 : ∀ w, (Instr.slice 9 (.string r) (some (.int .i64 1)) (some (.int .i64 3)) none).run Try.prog w = .ok (.string T) w := fun w => hsl w
          clear hsl
          have hlit : 4 ≤ r.size := by have h := HSZ.out; simp at h; omega
          have hds : ∀ w, Calls Try.prog 41 #[.int .i64 2, .bool true, .bool false] w fun e w' => e = .returned (.tuple #[.bool true, .bool false, .bool true]) ∧ w' = w := fun w => dotSegment_any 2 (by decide) true false w
          go_wp2_with (first | (go_at_call 40; refine (hix _).mono ?_; rintro e w' ⟨rfl, rfl⟩) | (go_at_call 41; refine (hds _).mono ?_; rintro e w' ⟨rfl, rfl⟩) | (go_at_call 35; refine (pop_ab g fb _ ps1 base _ _ hd1 ha1).mono ?_; rintro e w' ⟨rfl, k2, hd2, ha2, hgr2⟩))
          go_roundg (2 * (y.length + 1))
          case measure => have := HSZ.out; simp at this ⊢; omega
          case rel =>
            have hne := ext_drop_app r ([47] ++ [46, 46]) (47 :: y) (3) (by rw [HL.out]; simp) (rfl)
            have hnl : ((47 :: y : Bs)).length = y.length + 1 := rfl
            refine ⟨_, true, k2, _, _, rfl, rfl, ?_, hd2, ha2, hg1.tail, ?_, ?_, ?_, (grownBy_trans hgr hgr2), ?_⟩
            · rw [← blen, hne]; simp
            · intro _; exact ⟨y, hne⟩
            · intro h; cases h
            · rw [hne, ← HRD.out]
              exact ((RD_slash_dots _ y).trans (by rw [hg1.drop])).symm
            · have h1 := HSZ.out
              have h2 := hle
              have h3 := hfl3
              rw [← blen, hne]
              simp at h1 ⊢ <;> omega
        have hs0 := hseg
        have hs1 := hseg1
        have hs2 := hseg2
        clear hseg hseg1 hseg2
        have hT0 : T.toList.isEmpty = false := by rw [ByteArray.toList_eq, HT.out]; simpa using hs0
        have hT1 : (T.toList == [46]) = false := by rw [ByteArray.toList_eq, HT.out]; simpa using hs1
        have hT2 : (T.toList == [46, 46]) = false := by rw [ByteArray.toList_eq, HT.out]; simpa using hs2
        have HS : Hid (seg ≠ [] ∧ seg ≠ [46] ∧ seg ≠ [46, 46]) := ⟨hs0, hs1, hs2⟩
        clear hs0 hs1 hs2
        go_wp2_with (first | (go_at_call 40; refine (hix _).mono ?_; rintro e w' ⟨rfl, rfl⟩) | (go_at_call 42; refine (push_ab g fb _ ps1 base _ _ _ hd1 ha1 hfl ?_).mono ?_; (first | exact Nat.le_trans (ext_le _ _ _) (by omega) | omega); rintro e w' ⟨rfl, k3, e3, hd3, ha3, hgr3⟩))
        go_roundg (2 * (y.length + 1))
        case measure => have := HSZ.out; simp at this ⊢; omega
        case rel =>
          have hne := ext_drop_app r ([47] ++ seg) (47 :: y) (seg.length + 1) (by rw [HL.out]; simp) (by simp)
          have hnl : ((47 :: y : Bs)).length = y.length + 1 := rfl
          have hpe := ext_take_app r ([47] ++ seg) (47 :: y) (seg.length + 1) (by rw [HL.out]; simp) (by simp)
          refine ⟨_, true, k3, _, _, rfl, rfl, ?_, hd3, ha3, ⟨by rw [hpe]; exact goodP_slash seg HNO.out HS.out.2.1 HS.out.2.2, .inl (by rw [hpe]; rfl), hg1⟩, ?_, ?_, ?_, (grownBy_trans hgr hgr3), ?_⟩
          · rw [← blen, hne]; simp
          · intro _; exact ⟨y, hne⟩
          · intro h; cases h
          · rw [hne, ← HRD.out]
            show RD (flat ps1 ++ _) _ = _
            rw [hpe]
            exact (RD_slash_other _ seg (47 :: y) HNO.out (.inr ⟨y, rfl⟩) HS.out.2.1 HS.out.2.2).symm
          · have h1 := HSZ.out
            have h2 := hle
            rw [← blen, hne]
            have h4 : ∀ t : ByteArray, (flat (t :: (ps1 ++ base))).length = (flat (ps1 ++ base)).length + t.data.toList.length := fun t => by simp [flat]
            show (flat (_ :: (_ ++ base))).length + _ ≤ _
            rw [h4, hpe]
            simp at h1 ⊢ <;> omega
    | false =>
      obtain ⟨x, hx⟩ : ∃ x, r.data.toList = x := ⟨_, rfl⟩
      rcases idx_cases x with ⟨hi, hno⟩ | ⟨seg, y, hxy, hno, hi⟩
      · have hix : ∀ w, Calls Try.prog 40 #[.string r, .int .u8 47] w fun e w' => e = .returned (.int .i64 (-1)) ∧ w' = w := by
          intro w
          refine (Try.strings_IndexByte _ 47 w).mono ?_
          rintro e w' ⟨rfl, rfl⟩
          rw [hx]
          exact ⟨by rw [← hi]; rfl, rfl⟩
        have hl : r.data.toList = [] ++ (x ++ []) := by rw [hx]; simp
        generalize x = seg at *
        have HF1 : Hid (ps1 = []) := hf1 rfl
        clear hx hi ht1 hf1
        have HL : Hid (r.data.toList = [] ++ (seg ++ [])) := hl
        have HSZ : Hid (r.size = 0 + (seg.length + ([] : Bs).length)) := by show r.size = _; rw [← blen, hl]; simp <;> omega
        have hbs : r.size ≤ r.size ∧ 0 ≤ r.size := by have := HSZ.out; simp at this; omega
        have HRD : Hid (RD (flat ps1) ([] ++ (seg ++ [])) = RD (flat ps) s.data.toList) := by have h := hrd; rw [hl] at h; exact h
        have HNO : Hid ((47 : UInt8) ∉ seg) := hno
        obtain ⟨T, hTd⟩ : ∃ T, T = r.extract 0 r.size := ⟨_, rfl⟩
        have HT : Hid (T.data.toList = seg) := by show T.data.toList = seg; rw [hTd]; exact ext_mid r [] seg [] 0 r.size hl rfl (by have := HSZ.out; simp at this ⊢ <;> omega)
        have hsl := fun w => slice_mid r 0 r.size hbs.2 hbs.1 (by omega) w
        rw [← hTd] at hsl
        simp only [Int.natCast_add, Int.natCast_one, Int.natCast_zero, Int.ofNat_one, Int.cast_ofNat_Int] at hsl
        clear hl hTd hrd hno
        by_cases hseg : seg = []
        · subst hseg
          have hTL : T.toList = [] := by rw [ByteArray.toList_eq]; exact HT.out
          have hTS : T.size = 0 := by rw [← blen, HT.out]; rfl
          have hds : ∀ w, Calls Try.prog 41 #[.int .i64 0, .bool false, .bool true] w fun e w' => e = .returned (.tuple #[.bool false, .bool false, .bool true]) ∧ w' = w := fun w => dotSegment_any 0 (by decide) false true w
          go_wp2_with (first | (go_at_call 40; refine (hix _).mono ?_; rintro e w' ⟨rfl, rfl⟩) | (go_at_call 41; refine (hds _).mono ?_; rintro e w' ⟨rfl, rfl⟩))
          refine ret29 rfl ?_
          refine ⟨rfl, _, _, ps1, hd1, ha1, hg1, ?_, hgr⟩
          rw [← HRD.out]
          exact (RD_nil _).symm

        by_cases hseg1 : seg = [46]
        · have hseg := hseg1
          clear hseg1
          subst hseg
          have hTL : T.toList = [46] := by rw [ByteArray.toList_eq]; exact HT.out
          have hTS : T.size = 1 := by rw [← blen, HT.out]; rfl
          have hds : ∀ w, Calls Try.prog 41 #[.int .i64 1, .bool false, .bool true] w fun e w' => e = .returned (.tuple #[.bool false, .bool false, .bool false]) ∧ w' = w := fun w => dotSegment_any 1 (by decide) false true w
          go_wp2_with (first | (go_at_call 40; refine (hix _).mono ?_; rintro e w' ⟨rfl, rfl⟩) | (go_at_call 41; refine (hds _).mono ?_; rintro e w' ⟨rfl, rfl⟩))
          refine ret29 rfl ?_
          refine ⟨rfl, _, _, ps1, hd1, ha1, hg1, ?_, hgr⟩
          rw [← HRD.out]
          exact ((RD_G _).trans (RD_nil _)).symm
        by_cases hseg2 : seg = [46, 46]
        · have hseg := hseg2
          clear hseg2 hseg1
          subst hseg
          have hTL : T.toList = [46, 46] := by rw [ByteArray.toList_eq]; exact HT.out
          have hTS : T.size = 2 := by rw [← blen, HT.out]; rfl
          have hds : ∀ w, Calls Try.prog 41 #[.int .i64 2, .bool false, .bool true] w fun e w' => e = .returned (.tuple #[.bool false, .bool false, .bool false]) ∧ w' = w := fun w => dotSegment_any 2 (by decide) false true w
          go_wp2_with (first | (go_at_call 40; refine (hix _).mono ?_; rintro e w' ⟨rfl, rfl⟩) | (go_at_call 41; refine (hds _).mono ?_; rintro e w' ⟨rfl, rfl⟩))
          refine ret29 rfl ?_
          refine ⟨rfl, _, _, ps1, hd1, ha1, hg1, ?_, hgr⟩
          rw [← HRD.out]
          exact ((RD_G2 _).trans (RD_nil _)).symm
        have hs0 := hseg
        have hs1 := hseg1
        have hs2 := hseg2
        clear hseg hseg1 hseg2
        have hT0 : T.toList.isEmpty = false := by rw [ByteArray.toList_eq, HT.out]; simpa using hs0
        have hT1 : (T.toList == [46]) = false := by rw [ByteArray.toList_eq, HT.out]; simpa using hs1
        have hT2 : (T.toList == [46, 46]) = false := by rw [ByteArray.toList_eq, HT.out]; simpa using hs2
        have HS : Hid (seg ≠ [] ∧ seg ≠ [46] ∧ seg ≠ [46, 46]) := ⟨hs0, hs1, hs2⟩
        clear hs0 hs1 hs2
        go_wp2_with (first | (go_at_call 40; refine (hix _).mono ?_; rintro e w' ⟨rfl, rfl⟩) | (go_at_call 42; refine (push_ab g fb _ ps1 base _ _ _ hd1 ha1 hfl ?_).mono ?_; (first | exact Nat.le_trans (ext_le _ _ _) (by omega) | omega); rintro e w' ⟨rfl, k3, e3, hd3, ha3, hgr3⟩))
        refine ret29 rfl ?_
        have hpe := (show r.data.toList = [] ++ seg from by rw [HL.out]; simp)
        refine ⟨rfl, k3, e3, _, hd3, ha3, ⟨by rw [hpe]; exact goodP_plain seg HNO.out HS.out.1 HS.out.2.1 HS.out.2.2, .inr HF1.out, hg1⟩, ?_, (grownBy_trans hgr hgr3)⟩
        show flat ps1 ++ _ = _
        rw [hpe, ← HRD.out]
        rw [show ([] ++ (seg ++ []) : Bs) = seg ++ [] from rfl, RD_plain_other _ seg [] HNO.out (.inl rfl) HS.out.1 HS.out.2.1 HS.out.2.2, RD_nil]
        rfl
      · have hix : ∀ w, Calls Try.prog 40 #[.string r, .int .u8 47] w fun e w' => e = .returned (.int .i64 (seg.length : Int)) ∧ w' = w := by
          intro w
          refine (Try.strings_IndexByte _ 47 w).mono ?_
          rintro e w' ⟨rfl, rfl⟩
          rw [hx]
          exact ⟨by rw [← hi]; rfl, rfl⟩
        have hl : r.data.toList = [] ++ (seg ++ 47 :: y) := by rw [hx, hxy]; simp
        have HF1 : Hid (ps1 = []) := hf1 rfl
        clear hx hxy hi ht1 hf1
        have HL : Hid (r.data.toList = [] ++ (seg ++ (47 :: y))) := hl
        have HSZ : Hid (r.size = 0 + (seg.length + ((47 :: y) : Bs).length)) := by show r.size = _; rw [← blen, hl]; simp <;> omega
        have hbs : seg.length ≤ r.size ∧ 0 ≤ seg.length := by have := HSZ.out; simp at this; omega
        have HRD : Hid (RD (flat ps1) ([] ++ (seg ++ (47 :: y))) = RD (flat ps) s.data.toList) := by have h := hrd; rw [hl] at h; exact h
        have HNO : Hid ((47 : UInt8) ∉ seg) := hno
        obtain ⟨T, hTd⟩ : ∃ T, T = r.extract 0 seg.length := ⟨_, rfl⟩
        have HT : Hid (T.data.toList = seg) := by show T.data.toList = seg; rw [hTd]; exact ext_mid r [] seg (47 :: y) 0 seg.length hl rfl (by have := HSZ.out; simp at this ⊢ <;> omega)
        have hsl := fun w => slice_mid r 0 seg.length hbs.2 hbs.1 (by omega) w
        rw [← hTd] at hsl
        simp only [Int.natCast_add, Int.natCast_one, Int.natCast_zero, Int.ofNat_one, Int.cast_ofNat_Int] at hsl
        clear hl hTd hrd hno
        by_cases hseg : seg = []
        · subst hseg
          have hTL : T.toList = [] := by rw [ByteArray.toList_eq]; exact HT.out
          have hTS : T.size = 0 := by rw [← blen, HT.out]; rfl
          have hsl2 : ∀ w, (Instr.slice 9 (.string r) (some (.int .i64 0)) (some (.int .i64 0)) none).run Try.prog w = .ok (.string T) w := fun w => hsl w
          clear hsl
          have hlit : 1 ≤ r.size := by have h := HSZ.out; simp at h; omega
          have hds : ∀ w, Calls Try.prog 41 #[.int .i64 0, .bool false, .bool false] w fun e w' => e = .returned (.tuple #[.bool false, .bool false, .bool true]) ∧ w' = w := fun w => dotSegment_any 0 (by decide) false false w
          go_wp2_with (first | (go_at_call 40; refine (hix _).mono ?_; rintro e w' ⟨rfl, rfl⟩) | (go_at_call 41; refine (hds _).mono ?_; rintro e w' ⟨rfl, rfl⟩))
          go_roundg (2 * (y.length + 1))
          case measure => have := HSZ.out; simp at this ⊢; omega
          case rel =>
            have hne : r.data.toList = 47 :: y := HL.out
            have hnl : ((47 :: y : Bs)).length = y.length + 1 := rfl
            refine ⟨_, true, _, _, _, rfl, rfl, ?_, hd1, ha1, hg1, ?_, ?_, ?_, hgr, ?_⟩
            · rw [← blen, hne]; simp
            · intro _; exact ⟨y, hne⟩
            · intro h; cases h
            · rw [hne, ← HRD.out]
              rfl
            · have h1 := HSZ.out
              have h2 := hle
              rw [← blen, hne]
              simp at h1 ⊢ <;> omega

        by_cases hseg1 : seg = [46]
        · have hseg := hseg1
          clear hseg1
          subst hseg
          have hTL : T.toList = [46] := by rw [ByteArray.toList_eq]; exact HT.out
          have hTS : T.size = 1 := by rw [← blen, HT.out]; rfl
          have hsl2 : ∀ w, (Instr.slice 9 (.string r) (some (.int .i64 0)) (some (.int .i64 1)) none).run Try.prog w = .ok (.string T) w := fun w => hsl w
          clear hsl
          have hlit : 2 ≤ r.size := by have h := HSZ.out; simp at h; omega
          have hds : ∀ w, Calls Try.prog 41 #[.int .i64 1, .bool false, .bool false] w fun e w' => e = .returned (.tuple #[.bool false, .bool false, .bool false]) ∧ w' = w := fun w => dotSegment_any 1 (by decide) false false w
          go_wp2_with (first | (go_at_call 40; refine (hix _).mono ?_; rintro e w' ⟨rfl, rfl⟩) | (go_at_call 41; refine (hds _).mono ?_; rintro e w' ⟨rfl, rfl⟩))
          go_roundg (2 * y.length + 1)
          case measure => have := HSZ.out; simp at this ⊢; omega
          case rel =>
            have hne0 := ext_drop_app r ([] ++ [46]) (47 :: y) 1 HL.out rfl
            have hne := ext_drop_app _ [47] y 1 hne0 rfl
            rw [ext_size] at hne
            refine ⟨_, false, _, _, _, rfl, rfl, ?_, hd1, ha1, hg1, ?_, ?_, ?_, hgr, ?_⟩
            · rw [← blen, hne]; simp
            · intro h; cases h
            · intro _; exact HF1.out
            · rw [hne, ← HRD.out]
              exact (RD_plain_dot _ y).symm
            · have h1 := HSZ.out
              have h2 := hle
              rw [← blen, hne]
              simp at h1 ⊢ <;> omega
        by_cases hseg2 : seg = [46, 46]
        · have hseg := hseg2
          clear hseg2 hseg1
          subst hseg
          have hTL : T.toList = [46, 46] := by rw [ByteArray.toList_eq]; exact HT.out
          have hTS : T.size = 2 := by rw [← blen, HT.out]; rfl
          have hsl2 : ∀ w, (Instr.slice 9 (.string r) (some (.int .i64 0)) (some (.int .i64 2)) none).run Try.prog w = .ok (.string T) w := fun w => hsl w
          clear hsl
          have hlit : 3 ≤ r.size := by have h := HSZ.out; simp at h; omega
          have hds : ∀ w, Calls Try.prog 41 #[.int .i64 2, .bool false, .bool false] w fun e w' => e = .returned (.tuple #[.bool false, .bool false, .bool false]) ∧ w' = w := fun w => dotSegment_any 2 (by decide) false false w
          go_wp2_with (first | (go_at_call 40; refine (hix _).mono ?_; rintro e w' ⟨rfl, rfl⟩) | (go_at_call 41; refine (hds _).mono ?_; rintro e w' ⟨rfl, rfl⟩))
          go_roundg (2 * y.length + 1)
          case measure => have := HSZ.out; simp at this ⊢; omega
          case rel =>
            have hne0 := ext_drop_app r ([] ++ [46, 46]) (47 :: y) 2 HL.out rfl
            have hne := ext_drop_app _ [47] y 1 hne0 rfl
            rw [ext_size] at hne
            refine ⟨_, false, _, _, _, rfl, rfl, ?_, hd1, ha1, hg1, ?_, ?_, ?_, hgr, ?_⟩
            · rw [← blen, hne]; simp
            · intro h; cases h
            · intro _; exact HF1.out
            · rw [hne, ← HRD.out]
              exact (RD_plain_dots _ y).symm
            · have h1 := HSZ.out
              have h2 := hle
              rw [← blen, hne]
              simp at h1 ⊢ <;> omega
        have hs0 := hseg
        have hs1 := hseg1
        have hs2 := hseg2
        clear hseg hseg1 hseg2
        have hT0 : T.toList.isEmpty = false := by rw [ByteArray.toList_eq, HT.out]; simpa using hs0
        have hT1 : (T.toList == [46]) = false := by rw [ByteArray.toList_eq, HT.out]; simpa using hs1
        have hT2 : (T.toList == [46, 46]) = false := by rw [ByteArray.toList_eq, HT.out]; simpa using hs2
        have HS : Hid (seg ≠ [] ∧ seg ≠ [46] ∧ seg ≠ [46, 46]) := ⟨hs0, hs1, hs2⟩
        clear hs0 hs1 hs2
        go_wp2_with (first | (go_at_call 40; refine (hix _).mono ?_; rintro e w' ⟨rfl, rfl⟩) | (go_at_call 42; refine (push_ab g fb _ ps1 base _ _ _ hd1 ha1 hfl ?_).mono ?_; (first | exact Nat.le_trans (ext_le _ _ _) (by omega) | omega); rintro e w' ⟨rfl, k3, e3, hd3, ha3, hgr3⟩))
        go_roundg (2 * (y.length + 1))
        case measure => have := HSZ.out; simp at this ⊢; omega
        case rel =>
          have hne := ext_drop_app r ([] ++ seg) (47 :: y) (seg.length) (by rw [HL.out]; simp) (by simp)
          have hnl : ((47 :: y : Bs)).length = y.length + 1 := rfl
          have hpe := ext_take_app r ([] ++ seg) (47 :: y) seg.length (by rw [HL.out]; simp) (by simp)
          refine ⟨_, true, k3, _, _, rfl, rfl, ?_, hd3, ha3, ⟨by rw [hpe]; exact goodP_plain seg HNO.out HS.out.1 HS.out.2.1 HS.out.2.2, .inr HF1.out, hg1⟩, ?_, ?_, ?_, (grownBy_trans hgr hgr3), ?_⟩
          · rw [← blen, hne]; simp
          · intro _; exact ⟨y, hne⟩
          · intro h; cases h
          · rw [hne, ← HRD.out]
            show RD (flat ps1 ++ _) _ = _
            rw [hpe]
            exact (RD_plain_other _ seg (47 :: y) HNO.out (.inr ⟨y, rfl⟩) HS.out.1 HS.out.2.1 HS.out.2.2).symm
          · have h1 := HSZ.out
            have h2 := hle
            rw [← blen, hne]
            have h4 : ∀ t : ByteArray, (flat (t :: (ps1 ++ base))).length = (flat (ps1 ++ base)).length + t.data.toList.length := fun t => by simp [flat]
            show (flat (_ :: (_ ++ base))).length + _ ≤ _
            rw [h4, hpe]
            simp at h1 ⊢ <;> omega
end Go.Proofs.Qxb6000768a
