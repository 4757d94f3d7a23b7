import Derived.Test.Qxb6000768aW3
set_option linter.unusedSimpArgs false
set_option linter.unusedVariables false
namespace Go.Proofs.Qxb6000768a
open Go.RowKit

def pfx (p r : ByteArray) : Bool := List.isPrefixOf p.data.toList r.data.toList
def strLen : Value → Nat | .string s => s.size | _ => 0
theorem pfx_len {p r : ByteArray} (h : pfx p r = true) : p.size ≤ r.size := by
  have := isPrefixOf_len _ _ h
  rwa [blen, blen] at this
theorem ext_list (r : ByteArray) (a : Nat) : (r.extract a r.size).data.toList = r.data.toList.drop a := by
  have e : r = ⟨r.data.toList.toArray⟩ := by cases r; simp
  have hl := blen r
  have h2 : (r.extract a r.size) = ByteArray.mk ((r.data.toList.drop a).take (r.size - a)).toArray := by
    conv => lhs; rw [e]
    rw [ByteArray.extract_mk]
  rw [h2]
  show ((r.data.toList.drop a).take (r.size - a)).toArray.toList = _
  rw [List.take_of_length_le (by rw [List.length_drop, blen]; omega)]
theorem ext_take (r : ByteArray) (a : Nat) : (r.extract 0 a).data.toList = r.data.toList.take a := by
  have e : r = ⟨r.data.toList.toArray⟩ := by cases r; simp
  rw [e, ByteArray.extract_mk]
  simp
theorem ext_size (r : ByteArray) (a : Nat) : (r.extract a r.size).size = r.size - a := by
  rw [← blen, ext_list, List.length_drop, blen]
theorem take_size (r : ByteArray) (a : Nat) (h : a ≤ r.size) : (r.extract 0 a).size = a := by
  rw [← blen, ext_take, List.length_take, blen]; omega
theorem toList_no {r : ByteArray} {l : Bs} (h : (r.toList == l) = false) : r.data.toList ≠ l := by
  rw [ByteArray.toList_eq] at h; simpa using h
theorem toList_yes {r : ByteArray} {l : Bs} (h : (r.toList == l) = true) : r.data.toList = l := by
  rw [ByteArray.toList_eq] at h; simpa using h
theorem Row.drewN {w : World} {e : TypeId} {g cap : Nat} {xs : List UInt8} (h : Row w e g cap xs) (n : Nat) : Row (w.drewN n) e g cap xs := h
theorem belowDrewN {B : Nat} {w wr : World} (h : Below B w wr) (n : Nat) : Below B w (wr.drewN n) := ⟨h.os, h.tape, h.output, h.size, h.block⟩

theorem slice_len {a : Option Addr} {n m c : Nat} (h : n = m) : Value.slice a n c = Value.slice a m c := by rw [h]
theorem lget (r : ByteArray) (k : Nat) (h : k < r.size) : r.data.toList[k]? = some r[k] := by rw [← bget, ByteArray.getElem?_lt' r k h]

/-- what holds at the head of zzRemoveDots' loop -/
def RDInv (w : World) (B cap : Nat) (in0 : Bs) (rest out : Value) (wr : World) : Prop :=
  ∃ (r : ByteArray) (o : Bs), rest = .string r ∧ out = .slice (some ⟨B, 0, none⟩) o.length cap ∧ Row wr 5 B cap o ∧ Below B w wr ∧ r.size + o.length ≤ cap ∧ RD o r.data.toList = RD [] in0

set_option maxHeartbeats 1000000 in
theorem zzRemoveDots_any (s : ByteArray) (w : World) (hs : s.size ≤ 10000000) :
    Calls Try.prog 12 #[.string s] w fun e w' => e = .returned (.string ⟨(RD [] s.data.toList).toArray⟩) ∧ Below w.heap.size w w' := by
  have hmk := run_make_bytes bt 0 s.size (Nat.zero_le _) (by omega)
  simp only [Int.natCast_zero] at hmk
  go_enter Try.func12, Try.ntmps12
  go_wp2
  clear hmk
  have hstart : RDInv w w.heap.size s.size s.data.toList (.string s) (.slice (some ⟨w.heap.size, 0, none⟩) 0 s.size) (w.alloc (.cells (zeros s.size) 5)) :=
    ⟨s, [], rfl, rfl, Row.made w 5 s.size 0 (Nat.zero_le _), (Below.refl _ _).alloc (Nat.le_refl _) _, by simp, rfl⟩
  generalize hB : w.heap.size = B at *
  go_loopw [3, 4, 5] (fun rest out j wr => RDInv w B s.size s.data.toList rest out wr) (fun rest _ _ _ => strLen rest)
  case atStart => exact hstart
  case round =>
    clear hstart
    have HB : Hid (w.heap.size = B) := hB
    clear hB
    obtain ⟨r, o, rfl, rfl, hrow, hbel, hlen, hrd⟩ := hrel
    have hrs : r.size ≤ 100000000 := by omega
    have HR : Hid (RD o r.data.toList = RD [] s.data.toList) := hrd
    clear hrd
    have hp : ∀ (p : ByteArray) (w1 : World), p.size ≤ 4 → Calls Try.prog 21 #[.string r, .string p] w1 fun e w' => e = .returned (.bool (pfx p r)) ∧ ∃ n, w' = w1.drewN n :=
      fun p w1 h => zzHasPrefix_any r p w1 hrs (by omega)
    by_cases h0 : r.size = 0
    · have hcv := run_to_string bt Try.underlying9 hrow rfl
      have HF : Hid (RD [] s.data.toList = o) := by
        have hh := HR.out
        rw [show r.data.toList = [] from List.eq_nil_of_length_eq_zero (by rw [blen]; exact h0), RD_nil] at hh
        exact hh.symm
      clear hp
      go_wp2
      go_ret
      exact ⟨by rw [HF.out]; rfl, by rw [HB.out]; exact hbel⟩
    · have h0' : (0 : Int) < (r.size : Int) := by omega
      cases hA : pfx ⟨#[46, 46, 47]⟩ r with
      | true =>
        have hl : 3 ≤ r.size := pfx_len hA
        go_wp2_with (go_at_call 21; refine (hp _ _ (by decide)).mono ?_; rintro e w' ⟨rfl, n, rfl⟩)
        go_roundw
        case rel => exact ⟨_, o, rfl, rfl, hrow.drewN _, belowDrewN hbel _, by rw [ext_size]; omega, by rw [ext_list, ← RD_A o _ hA]; exact HR.out⟩
        case measure => simp only [strLen]; rw [ext_size]; omega
      | false =>
      cases hBp : pfx ⟨#[46, 47]⟩ r with
      | true =>
        have hl : 2 ≤ r.size := pfx_len hBp
        go_wp2_with (go_at_call 21; refine (hp _ _ (by decide)).mono ?_; rintro e w' ⟨rfl, n, rfl⟩)
        go_roundw
        case rel => exact ⟨_, o, rfl, rfl, hrow.drewN _, belowDrewN hbel _, by rw [ext_size]; omega, by rw [ext_list, ← RD_B o _ hA hBp]; exact HR.out⟩
        case measure => simp only [strLen]; rw [ext_size]; omega
      | false =>
      cases hC : pfx ⟨#[47, 46, 47]⟩ r with
      | true =>
        have hl : 3 ≤ r.size := pfx_len hC
        go_wp2_with (go_at_call 21; refine (hp _ _ (by decide)).mono ?_; rintro e w' ⟨rfl, n, rfl⟩)
        go_roundw
        case rel => exact ⟨_, o, rfl, rfl, hrow.drewN _, belowDrewN hbel _, by rw [ext_size]; omega, by rw [ext_list, ← RD_C o _ hA hBp hC]; exact HR.out⟩
        case measure => simp only [strLen]; rw [ext_size]; omega
      | false =>
      cases hD : (r.toList == [47, 46]) with
      | true =>
        have hl : r.data.toList = [47, 46] := toList_yes hD
        have hz : r.size = 2 := by rw [← blen, hl]; rfl
        have HL : Hid (r.data.toList = [47, 46] ∧ r.size = 2) := ⟨hl, hz⟩
        clear hl hz
        go_wp2_with (go_at_call 21; refine (hp _ _ (by decide)).mono ?_; rintro e w' ⟨rfl, n, rfl⟩)
        go_roundw
        case rel => exact ⟨_, o, rfl, rfl, hrow.drewN _, belowDrewN hbel _, by have := HL.out.2; show 1 + o.length ≤ _; omega, by have hh := HR.out; rw [HL.out.1, RD_D] at hh; exact hh⟩
        case measure => simp only [strLen]; rw [HL.out.2]; decide
      | false =>
      have hD' : r.data.toList ≠ [47, 46] := toList_no hD
      have HD : Hid (r.data.toList ≠ [47, 46]) := hD'
      clear hD'
      cases hE : pfx ⟨#[47, 46, 46, 47]⟩ r with
      | true =>
        have hl : 4 ≤ r.size := pfx_len hE
        go_wp2_with (first | (go_at_call 21; refine (hp _ _ (by decide)).mono ?_; rintro e w' ⟨rfl, n, rfl⟩) | (go_at_call 31; refine (drop_any B _ o _ rfl _ (hrow.drewN _) (by omega)).mono ?_; rintro e w' ⟨rfl, rfl⟩))
        go_roundw
        case rel => exact ⟨_, dropSeg o, rfl, rfl, by rw [dropSeg_eq o]; exact (hrow.take _).drewN _, belowDrewN hbel _, by rw [ext_size]; have := dropSeg_le o; omega, by rw [ext_list, ← RD_E o _ hA hBp hC HD.out hE]; exact HR.out⟩
        case measure => simp only [strLen]; rw [ext_size]; omega
      | false =>
      cases hF : (r.toList == [47, 46, 46]) with
      | true =>
        have hl : r.data.toList = [47, 46, 46] := toList_yes hF
        have hz : r.size = 3 := by rw [← blen, hl]; rfl
        have HL : Hid (r.data.toList = [47, 46, 46] ∧ r.size = 3) := ⟨hl, hz⟩
        clear hl hz
        go_wp2_with (first | (go_at_call 21; refine (hp _ _ (by decide)).mono ?_; rintro e w' ⟨rfl, n, rfl⟩) | (go_at_call 31; refine (drop_any B _ o _ rfl _ (hrow.drewN _) (by omega)).mono ?_; rintro e w' ⟨rfl, rfl⟩))
        go_roundw
        case rel => exact ⟨_, dropSeg o, rfl, rfl, by rw [dropSeg_eq o]; exact (hrow.take _).drewN _, belowDrewN hbel _, by have := HL.out.2; have := dropSeg_le o; show 1 + (dropSeg o).length ≤ _; omega, by have hh := HR.out; rw [HL.out.1, RD_F] at hh; exact hh⟩
        case measure => simp only [strLen]; rw [HL.out.2]; decide
      | false =>
      have HFn : Hid (r.data.toList ≠ [47, 46, 46]) := toList_no hF
      cases hG : (r.toList == [46]) with
      | true =>
        have hl : r.data.toList = [46] := toList_yes hG
        have hz : r.size = 1 := by rw [← blen, hl]; rfl
        have HL : Hid (r.data.toList = [46] ∧ r.size = 1) := ⟨hl, hz⟩
        clear hl hz
        go_wp2_with (first | (go_at_call 21; refine (hp _ _ (by decide)).mono ?_; rintro e w' ⟨rfl, n, rfl⟩))
        go_roundw
        case rel => exact ⟨_, o, rfl, rfl, hrow.drewN _, belowDrewN hbel _, by show 0 + o.length ≤ _; omega, by have hh := HR.out; rw [HL.out.1, RD_G] at hh; exact hh⟩
        case measure => simp only [strLen]; rw [HL.out.2]; decide
      | false =>
      have HGn : Hid (r.data.toList ≠ [46]) := toList_no hG
      cases hG2 : (r.toList == [46, 46]) with
      | true =>
        have hl : r.data.toList = [46, 46] := toList_yes hG2
        have hz : r.size = 2 := by rw [← blen, hl]; rfl
        have HL : Hid (r.data.toList = [46, 46] ∧ r.size = 2) := ⟨hl, hz⟩
        clear hl hz
        go_wp2_with (first | (go_at_call 21; refine (hp _ _ (by decide)).mono ?_; rintro e w' ⟨rfl, n, rfl⟩))
        go_roundw
        case rel => exact ⟨_, o, rfl, rfl, hrow.drewN _, belowDrewN hbel _, by show 0 + o.length ≤ _; omega, by have hh := HR.out; rw [HL.out.1, RD_G2] at hh; exact hh⟩
        case measure => simp only [strLen]; rw [HL.out.2]; decide
      | false =>
      have HG2n : Hid (r.data.toList ≠ [46, 46]) := toList_no hG2
      have hr0 : 0 < r.size := by omega
      have hfin : ∀ k, segLen r.data.toList = k → RD (o ++ r.data.toList.take k) (r.data.toList.drop k) = RD [] s.data.toList := by
        rintro k rfl
        rw [← RD_H o _ (by intro e; rw [← blen, e] at hr0; simp at hr0) hA hBp hC HD.out hE HFn.out HGn.out HG2n.out]
        exact HR.out
      have HFIN : Hid (∀ k, segLen r.data.toList = k → RD (o ++ r.data.toList.take k) (r.data.toList.drop k) = RD [] s.data.toList) := hfin
      clear hfin
      by_cases h47 : r[0] = 47
      · have hb := beq47_yes h47
        have H47 : Hid (r[0] = 47) := h47
        clear h47
        go_wp2_with (first | (go_at_call 21; refine (hp _ _ (by decide)).mono ?_; rintro e w' ⟨rfl, n, rfl⟩))
        go_loop [5] (fun j => ∃ k : Nat, 1 ≤ k ∧ k ≤ r.size ∧ j = .int .i64 k ∧ ∀ i, 1 ≤ i → i < k → r.data.toList[i]? ≠ some 47) (fun j => r.size - (intOf j).toNat)
        case atStart => exact ⟨1, by omega, by omega, rfl, fun i h1 h2 => absurd h2 (by omega)⟩
        case round =>
          obtain ⟨k, hk1, hk, rfl, hno⟩ := hrel
          have HN : Hid (∀ i, 1 ≤ i → i < k → r.data.toList[i]? ≠ some 47) := hno
          clear hno
          by_cases hlt : k < r.size
          · by_cases hk47 : r[k] = 47
            · have hb4 := eq47 hk47
              have HS : Hid (segLen r.data.toList = k) := segLen_slash r.data.toList k (by rw [lget r 0 hr0, H47.out]) hk1 (by rw [blen]; exact hk) HN.out (.inr (by rw [lget r k hlt, hk47]))
              clear hk47
              go_wp2_with (first | (at_builtin; refine wpList_append_str bt Try.underlying9 rfl _ _ rfl B s.size _ o (r.extract 0 k) rfl rfl (hrow.drewN _) rfl (by rw [take_size _ _ hk]; omega) ?_; intro w1 hrow1 hgr1))
              go_roundw
              case rel =>
                refine ⟨_, o ++ r.data.toList.take k, rfl, slice_len ?_, ?_, ?_, ?_, ?_⟩
                · rw [List.length_append, List.length_take, blen]; omega
                · rw [ext_take] at hrow1; exact hrow1
                · exact (belowDrewN hbel _).grown hgr1 (by have := hbel.size; have := HB.out; simp; omega) (by rintro j hj; cases hj; exact Nat.le_refl _)
                · rw [ext_size, List.length_append, List.length_take, blen]; omega
                · rw [ext_list]; exact HFIN.out k HS.out
              case measure =>
                have := segLen_pos r.data.toList (by intro e; rw [← blen, e] at hr0; simp at hr0)
                have := HS.out
                simp only [strLen]; rw [ext_size]; omega

            · have hb4 := ne47 hk47
              have H4 : Hid (r[k] ≠ 47) := hk47
              clear hk47
              go_wp2
              go_round
              case rel =>
                exact ⟨k + 1, by omega, by omega, by go_num, fun i h1 h2 => by
                  by_cases hik : i < k
                  · exact HN.out i h1 hik
                  · obtain rfl : i = k := by omega
                    rw [lget r i hlt]; intro e; exact H4.out (Option.some.inj e)⟩
              case measure => simp [intOf]; omega
          · have HS : Hid (segLen r.data.toList = k) := segLen_slash r.data.toList k (by rw [lget r 0 hr0, H47.out]) hk1 (by rw [blen]; exact hk) HN.out (.inl (by rw [blen]; omega))
            go_wp2_with (first | (at_builtin; refine wpList_append_str bt Try.underlying9 rfl _ _ rfl B s.size _ o (r.extract 0 k) rfl rfl (hrow.drewN _) rfl (by rw [take_size _ _ hk]; omega) ?_; intro w1 hrow1 hgr1))
            go_roundw
            case rel =>
              refine ⟨_, o ++ r.data.toList.take k, rfl, slice_len ?_, ?_, ?_, ?_, ?_⟩
              · rw [List.length_append, List.length_take, blen]; omega
              · rw [ext_take] at hrow1; exact hrow1
              · exact (belowDrewN hbel _).grown hgr1 (by have := hbel.size; have := HB.out; simp; omega) (by rintro j hj; cases hj; exact Nat.le_refl _)
              · rw [ext_size, List.length_append, List.length_take, blen]; omega
              · rw [ext_list]; exact HFIN.out k HS.out
            case measure =>
              have := segLen_pos r.data.toList (by intro e; rw [← blen, e] at hr0; simp at hr0)
              have := HS.out
              simp only [strLen]; rw [ext_size]; omega

      · have hb := beq47_no h47
        have H47 : Hid (r[0] ≠ 47) := h47
        clear h47
        go_wp2_with (first | (go_at_call 21; refine (hp _ _ (by decide)).mono ?_; rintro e w' ⟨rfl, n, rfl⟩))
        go_loop [5] (fun j => ∃ k : Nat, k ≤ r.size ∧ j = .int .i64 k ∧ ∀ i, i < k → r.data.toList[i]? ≠ some 47) (fun j => r.size - (intOf j).toNat)
        case atStart => exact ⟨0, by omega, rfl, fun i h2 => absurd h2 (by omega)⟩
        case round =>
          obtain ⟨k, hk, rfl, hno⟩ := hrel
          have HN : Hid (∀ i, i < k → r.data.toList[i]? ≠ some 47) := hno
          clear hno
          by_cases hlt : k < r.size
          · by_cases hk47 : r[k] = 47
            · have hb4 := eq47 hk47
              have HS : Hid (segLen r.data.toList = k) := segLen_plain r.data.toList k (by rw [lget r 0 hr0]; intro e; exact H47.out (Option.some.inj e)) (by rw [blen]; exact hk) HN.out (.inr (by rw [lget r k hlt, hk47]))
              clear hk47
              go_wp2_with (first | (at_builtin; refine wpList_append_str bt Try.underlying9 rfl _ _ rfl B s.size _ o (r.extract 0 k) rfl rfl (hrow.drewN _) rfl (by rw [take_size _ _ hk]; omega) ?_; intro w1 hrow1 hgr1))
              go_roundw
              case rel =>
                refine ⟨_, o ++ r.data.toList.take k, rfl, slice_len ?_, ?_, ?_, ?_, ?_⟩
                · rw [List.length_append, List.length_take, blen]; omega
                · rw [ext_take] at hrow1; exact hrow1
                · exact (belowDrewN hbel _).grown hgr1 (by have := hbel.size; have := HB.out; simp; omega) (by rintro j hj; cases hj; exact Nat.le_refl _)
                · rw [ext_size, List.length_append, List.length_take, blen]; omega
                · rw [ext_list]; exact HFIN.out k HS.out
              case measure =>
                have := segLen_pos r.data.toList (by intro e; rw [← blen, e] at hr0; simp at hr0)
                have := HS.out
                simp only [strLen]; rw [ext_size]; omega

            · have hb4 := ne47 hk47
              have H4 : Hid (r[k] ≠ 47) := hk47
              clear hk47
              go_wp2
              go_round
              case rel =>
                exact ⟨k + 1, by omega, by go_num, fun i h2 => by
                  by_cases hik : i < k
                  · exact HN.out i hik
                  · obtain rfl : i = k := by omega
                    rw [lget r i hlt]; intro e; exact H4.out (Option.some.inj e)⟩
              case measure => simp [intOf]; omega
          · have HS : Hid (segLen r.data.toList = k) := segLen_plain r.data.toList k (by rw [lget r 0 hr0]; intro e; exact H47.out (Option.some.inj e)) (by rw [blen]; exact hk) HN.out (.inl (by rw [blen]; omega))
            go_wp2_with (first | (at_builtin; refine wpList_append_str bt Try.underlying9 rfl _ _ rfl B s.size _ o (r.extract 0 k) rfl rfl (hrow.drewN _) rfl (by rw [take_size _ _ hk]; omega) ?_; intro w1 hrow1 hgr1))
            go_roundw
            case rel =>
              refine ⟨_, o ++ r.data.toList.take k, rfl, slice_len ?_, ?_, ?_, ?_, ?_⟩
              · rw [List.length_append, List.length_take, blen]; omega
              · rw [ext_take] at hrow1; exact hrow1
              · exact (belowDrewN hbel _).grown hgr1 (by have := hbel.size; have := HB.out; simp; omega) (by rintro j hj; cases hj; exact Nat.le_refl _)
              · rw [ext_size, List.length_append, List.length_take, blen]; omega
              · rw [ext_list]; exact HFIN.out k HS.out
            case measure =>
              have := segLen_pos r.data.toList (by intro e; rw [← blen, e] at hr0; simp at hr0)
              have := HS.out
              simp only [strLen]; rw [ext_size]; omega

end Go.Proofs.Qxb6000768a
