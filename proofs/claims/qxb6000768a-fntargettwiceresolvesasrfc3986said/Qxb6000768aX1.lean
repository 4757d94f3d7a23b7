import Derived.Test.Qxb6000768aShelf
import Derived.WalkKit
import Derived.WalkMore
import Derived.Deep.LoopGhost
import Derived.Deep.Draws
import Derived.Deep.QuietTactic
import Derived.BigQuiet
import Derived.Lib.OthersKept
import Derived.Lib.IndexLaws
import Derived.Laws.RangeAny
set_option linter.unusedSimpArgs false
set_option linter.unusedVariables false
namespace Go.Proofs.Qxb6000768a
open Go.RowKit

/-- all bytes are below 128 -/
def Asc (c : ByteArray) : Prop := ∀ (j : Nat) (h : j < c.size), (c[j]'h).toNat < 128

theorem xext_list (r : ByteArray) (a : Nat) : (r.extract a r.size).data.toList = r.data.toList.drop a := by
  have e : r = ⟨r.data.toList.toArray⟩ := by cases r; simp
  have h2 : (r.extract a r.size) = ByteArray.mk ((r.data.toList.drop a).take (r.size - a)).toArray := by
    conv => lhs; rw [e]
    rw [ByteArray.extract_mk]
  rw [h2]
  show ((r.data.toList.drop a).take (r.size - a)).toArray.toList = _
  rw [List.take_of_length_le (by rw [List.length_drop]; show r.data.toList.length - a ≤ _; simp [Array.length_toList])]
theorem Asc.no {c : ByteArray} (h : Asc c) (a : Nat) (x : UInt8) (hx : 128 ≤ x.toNat) : Lib.indexByte (c.extract a c.size).data.toList x = -1 := by
  have hge := Lib.indexByte_ge (c.extract a c.size).data.toList x
  by_cases h1 : Lib.indexByte (c.extract a c.size).data.toList x = -1
  · exact h1
  · obtain ⟨n, hn⟩ : ∃ n : Nat, Lib.indexByte (c.extract a c.size).data.toList x = (n : Int) := ⟨(Lib.indexByte (c.extract a c.size).data.toList x).toNat, by omega⟩
    obtain ⟨h2, _⟩ := Lib.indexByte_some hn
    rw [xext_list, List.getElem?_drop] at h2
    obtain ⟨h3, h4⟩ := List.getElem?_eq_some_iff.1 h2
    have h5 : a + n < c.size := by simpa using h3
    have h7 := h (a + n) h5
    have h8 : (c[a + n]'h5) = x := h4
    rw [h8] at h7; omega

set_option maxRecDepth 1000000 in
set_option maxHeartbeats 400000 in
theorem indexRune_err (c : ByteArray) (hc : Asc c) (hz : c.size ≤ 4) (w : World) :
    Calls Try.prog 51 #[.string c, .int .i32 65533] w fun e w' => e = .returned (.int .i64 (-1)) ∧ Below w.heap.size w w' := by
  go_enter Try.func51, Try.ntmps51
  go_wp2
  go_loopg [5, 6] c.size (fun g _ _ wx => ∃ i : Nat, i + g = c.size ∧ wx = w.iter c i)
  case atStart => exact ⟨0, by omega, rfl⟩
  case round =>
    obtain ⟨i, hig, rfl⟩ := hrel
    cases gk with
    | zero =>
      obtain rfl : i = c.size := by omega
      have hnx := run_next_end (P := Try.prog) w c c.size
      go_wp2
      go_ret
      exact ⟨rfl, (Below.refl _ _).alloc (Nat.le_refl _) _⟩
    | succ g =>
      have hi : i < c.size := by omega
      have hx128 := hc i hi
      have hnx := fun ty => run_next_ascii (P := Try.prog) w c i ty hi hx128
      have hne : (((c[i]'hi).toNat : Int) == 65533) = false := beq_eq_false_iff_ne.2 (by omega)
      go_wp2
      go_roundg g
      case measure => omega
      case rel => exact ⟨i + 1, by omega, rfl⟩

set_option maxRecDepth 1000000 in
set_option maxHeartbeats 400000 in
theorem indexRune_hi (c : ByteArray) (r : Nat) (hc : Asc c) (hz : 3 ≤ c.size) (hz4 : c.size ≤ 4) (hr : 128 ≤ r) (hr2 : r ≤ 2147483647) (hne : r ≠ 65533) (hv : Lib.validRune r = true) (w : World) :
    Calls Try.prog 51 #[.string c, .int .i32 r] w fun e w' => e = .returned (.int .i64 (-1)) ∧ Below w.heap.size w w' := by
  have hne' : ((r : Int) == 65533) = false := beq_eq_false_iff_ne.2 (by omega)
  have hnl : decide ((r : Int) < 128) = false := by simp; omega
  have hcv : ∀ w, (convert 21 9 (.int .i32 (r : Int))).run Try.prog w = .ok (.string (Utf8.encode r)) w := fun w =>
    run_convert_int_string w 21 9 .i32 r (by rw [Try.underlying21]; rfl) Try.underlying9
  have hvv : Utf8.valid (r : Int) = true := by
    simp only [Lib.validRune, decide_eq_true_eq] at hv
    simp only [Utf8.valid, Bool.or_eq_true, Bool.and_eq_true, decide_eq_true_eq]
    omega
  obtain ⟨h2, hE4, hlb⟩ := encode_facts r hvv (by omega)
  clear hvv
  generalize Utf8.encode (r : Int) = E at *
  obtain ⟨n, hn⟩ : ∃ n, E.size = n + 1 := ⟨E.size - 1, by omega⟩
  have hEn : n < E.size := by omega
  have HB : Hid (128 ≤ (E[n]'hEn).toNat) := by
    have := hlb (by omega)
    simp only [hn, Nat.add_sub_cancel] at this
    exact this
  have hn1 : 1 ≤ n := by omega
  have hn3 : n ≤ 3 := by omega
  have HC : Hid (Asc c) := hc
  clear hne hr2 hlb hc hE4 h2
  go_enter Try.func51, Try.ntmps51
  go_wp2_with (first | (go_at_call 58; refine (Try.utf8_ValidRune _ _).mono ?_; rintro e w ⟨rfl, rfl⟩; rw [hv]))
  go_step3
  go_wp2
  clear hn
  go_loop [9] (fun i => i = .int .i64 (n : Int)) (fun _ => 0)
  case atStart => rfl
  case round =>
    subst hrel
    by_cases hlt : n < c.size
    · have hneb : (((c[n]'hlt).toNat : Int) != ((E[n]'hEn).toNat : Int)) = true := by
        have h1 := HC.out n hlt
        have h2 := HB.out
        rw [bne_iff_ne]; omega
      have hq : ∀ w, Calls Try.prog 40 #[.string (c.extract (n + 1) c.size), .int .u8 ((E[n]'hEn).toNat : Int)] w fun e w' => e = .returned (.int .i64 (-1)) ∧ w' = w := by
        intro w
        refine (Try.strings_IndexByte _ _ w).mono ?_
        rintro e w' ⟨rfl, rfl⟩
        rw [HC.out.no _ _ (by have := HB.out; simpa using this)]
        exact ⟨rfl, rfl⟩
      go_wp2
      go_step3
      go_wp2
      go_region
      all_goals go_wp2
      have hw1 : IntKind.i64.wrap ((n : Int) + 1) = (n : Int) + 1 := wrap_small _ (by omega) (by omega)
      have hb1 : (0 : Int) ≤ (n : Int) + 1 := by omega
      have hb2 : (n : Int) + 1 ≤ (c.size : Int) := by omega
      go_quiet ((go_at_call 40; exact (hq _).mono (fun _ _ h => ⟨h.1, _, h.2⟩)))
      go_wp2
      rw [Exit.noGoto_ret]
      go_wp2

      rw [Exit.noGoto_ret]
      go_ret
      exact ⟨rfl, ⟨rfl, rfl, rfl, Nat.le_refl _, fun _ _ => rfl⟩⟩
    · go_wp2
      go_ret
      exact ⟨rfl, Below.refl _ _⟩

set_option maxRecDepth 1000000 in
theorem indexRune_bad (c : ByteArray) (r : Nat) (hr : 128 ≤ r) (hne : r ≠ 65533) (hv : Lib.validRune r = false) (w : World) :
    Calls Try.prog 51 #[.string c, .int .i32 r] w fun e w' => e = .returned (.int .i64 (-1)) ∧ Below w.heap.size w w' := by
  have hne' : ((r : Int) == 65533) = false := beq_eq_false_iff_ne.2 (by omega)
  have hnl : decide ((r : Int) < 128) = false := by simp; omega
  clear hne
  go_enter Try.func51, Try.ntmps51
  go_wp2_with (first | (go_at_call 58; refine (Try.utf8_ValidRune _ _).mono ?_; rintro e w ⟨rfl, rfl⟩; rw [hv]))
  go_ret
  exact ⟨rfl, Below.refl _ _⟩

theorem indexRune_any (c : ByteArray) (r : Nat) (hc : Asc c) (hz : 3 ≤ c.size) (hz4 : c.size ≤ 4) (hr : 128 ≤ r) (hr2 : r ≤ 2147483647) (w : World) :
    Calls Try.prog 51 #[.string c, .int .i32 r] w fun e w' => e = .returned (.int .i64 (-1)) ∧ Below w.heap.size w w' := by
  by_cases hne : r = 65533
  · subst hne; exact indexRune_err c hc hz4 w
  · cases hv : Lib.validRune r with
    | true => exact indexRune_hi c r hc hz hz4 hr hr2 hne hv w
    | false => exact indexRune_bad c r hr hne hv w

theorem get_high (s : ByteArray) (j : Nat) (h : j < s.size) (hd : (s.get! j).toNat / 64 = 2) : ∃ b, s.data.toList[j]? = some b ∧ 128 ≤ b.toNat := by
  refine ⟨s.get! j, ?_, by omega⟩
  have e : s.get! j = s[j]'h := by simp [ByteArray.get!, getElem!_pos, h]; rfl
  rw [e]
  exact List.getElem?_eq_getElem (by simpa using h)

theorem decode_skip (s : ByteArray) (pos : Nat) (h : pos < s.size) (ha : 128 ≤ (s[pos]'h).toNat) :
    1 ≤ (Utf8.decode s pos).2 ∧ pos + (Utf8.decode s pos).2 ≤ s.size ∧ ∀ j, pos ≤ j → j < pos + (Utf8.decode s pos).2 → ∃ b, s.data.toList[j]? = some b ∧ 128 ≤ b.toNat := by
  have hn : ¬ (s[pos]'h).toNat < 128 := by omega
  have h0 : ∃ b, s.data.toList[pos]? = some b ∧ 128 ≤ b.toNat := ⟨s[pos]'h, List.getElem?_eq_getElem (by simpa using h), ha⟩
  have key : ∀ d : Nat, 1 ≤ d → d ≤ 4 → (∀ k, 1 ≤ k → k < d → pos + k < s.size ∧ (s.get! (pos + k)).toNat / 64 = 2) →
      1 ≤ d ∧ pos + d ≤ s.size ∧ ∀ j, pos ≤ j → j < pos + d → ∃ b, s.data.toList[j]? = some b ∧ 128 ≤ b.toNat := by
    intro d h1 h4 hk
    refine ⟨h1, ?_, fun j hj1 hj2 => ?_⟩
    · by_cases e : d = 1
      · omega
      · have := (hk (d - 1) (by omega) (by omega)).1; omega
    · by_cases e : j = pos
      · subst e; exact h0
      · obtain ⟨k, rfl⟩ : ∃ k, j = pos + k := ⟨j - pos, by omega⟩
        exact get_high s _ (hk k (by omega) (by omega)).1 (hk k (by omega) (by omega)).2
  have one := key 1 (by omega) (by omega) (fun k h1 h2 => absurd h2 (by omega))
  simp only [Utf8.decode, get_at s pos h, hn, if_false]
  split
  · rename_i h2
    simp only [Bool.and_eq_true, beq_iff_eq, decide_eq_true_eq] at h2
    split
    · exact key 2 (by omega) (by omega) (fun k h3 h4 => by
        have hk : k = 1 := by omega
        subst hk
        exact h2.2)
    · exact one
  · split
    · rename_i h2
      simp only [Bool.and_eq_true, beq_iff_eq, decide_eq_true_eq] at h2
      split
      · exact key 3 (by omega) (by omega) (fun k h3 h4 => by
          have : k = 1 ∨ k = 2 := by omega
          rcases this with rfl | rfl
          · exact h2.1.2
          · exact h2.2)
      · exact one
    · split
      · rename_i h2
        simp only [Bool.and_eq_true, beq_iff_eq, decide_eq_true_eq] at h2
        split
        · exact key 4 (by omega) (by omega) (fun k h3 h4 => by
            have : k = 1 ∨ k = 2 ∨ k = 3 := by omega
            rcases this with rfl | rfl | rfl
            · exact h2.1.1.2
            · exact h2.1.2
            · exact h2.2)
        · exact one
      · exact one

theorem Asc.contains {c : ByteArray} (h : Asc c) (b : UInt8) (hb : 128 ≤ b.toNat) : c.data.toList.contains b = false := by
  rw [Bool.eq_false_iff]
  intro hm
  have hm' : b ∈ c.data.toList := by simpa using hm
  obtain ⟨k, hk, e⟩ := List.mem_iff_getElem.1 hm'
  have h5 : k < c.size := by simpa using hk
  have := h k h5
  have h6 : (c[k]'h5) = b := e
  rw [h6] at this; omega

set_option maxRecDepth 1000000 in
set_option maxHeartbeats 1000000 in
theorem indexAny_short (s c : ByteArray) (hc : Asc c) (hz : 3 ≤ c.size) (hz4 : c.size ≤ 4) (h8 : s.size ≤ 8) (w : World) :
    Calls Try.prog 43 #[.string s, .string c] w fun e w' => e = .returned (.int .i64 (Lib.indexAny s.data.toList c.data.toList)) ∧ Below w.heap.size w w' := by
  have hemp : c.toList.isEmpty = false := by
    rw [ByteArray.toList_eq]
    cases h : c.data.toList with
    | nil => have : c.data.toList.length = c.size := Array.length_toList; rw [h] at this; simp at this; omega
    | cons _ _ => rfl
  have hn1 : ((c.size : Int) == 1) = false := beq_eq_false_iff_ne.2 (by omega)
  have h8z : decide ((8 : Int) < (s.size : Int)) = false := decide_eq_false (by omega)
  have HC : Hid (Asc c) := hc
  clear hc
  go_enter Try.func43, Try.ntmps43
  go_wp2_with (go_at_call 52; refine (Try.strings_shouldUseASCIISet _ _).mono ?_; rintro e w' ⟨rfl, hw⟩; have hw := hw.symm; subst hw; rw [h8z])
  generalize hB : w.heap.size = B at *
  have HB : Hid (w.heap.size = B) := hB
  have hst : (w.iter s 0).heap[B]? = some (.stringIter s 0) ∧ Below B w (w.iter s 0) := by
    subst hB; exact ⟨World.iter_heap _ _ _, (Below.refl _ _).alloc (Nat.le_refl _) _⟩
  clear hB
  go_loopg [9, 10] s.size (fun g _ _ wx => ∃ i : Nat, i + g = s.size ∧ wx.heap[B]? = some (.stringIter s i) ∧ Below B w wx ∧ Lib.NoAny s.data.toList c.data.toList i)
  case atStart => exact ⟨0, by omega, hst.1, hst.2, Lib.NoAny.zero _ _⟩
  case round =>
    obtain ⟨i, hig, hit, hbel, hno⟩ := hrel
    clear hst
    have HN : Hid (Lib.NoAny s.data.toList c.data.toList i) := hno
    clear hno
    cases gk with
    | zero =>
      obtain rfl : i = s.size := by omega
      have hnx := fun ty => Lib.run_next_end_at (P := Try.prog) wr B s s.size ty hit (by omega)
      have HF : Hid (Lib.indexAny s.data.toList c.data.toList = -1) := Lib.indexAny_none (by have : s.data.toList.length = s.size := Array.length_toList; rw [this]; exact HN.out)
      go_wp2
      go_ret
      exact ⟨by rw [HF.out]; rfl, by rw [HB.out]; exact hbel⟩
    | succ g =>
      have hi : i < s.size := by omega
      have hBlt : B < wr.heap.size := (Array.getElem?_eq_some_iff.1 hit).1
      by_cases hx128 : (s[i]'hi).toNat < 128
      · have hnx := fun ty => Lib.run_next_ascii_at (P := Try.prog) wr B s i ty hit hi hx128
        have hxl : s.data.toList[i]? = some (s[i]'hi) := List.getElem?_eq_getElem (by simpa using hi)
        have hit2 := Lib.iterAt_heap wr B s i (i + 1) hit
        have hbel2 : Below B w (wr.iterAt B s (i + 1)) := Lib.below_iterAt hbel (Nat.le_refl _) s (i + 1)
        generalize wr.iterAt B s (i + 1) = w2 at *
        generalize s[i] = x at *
        have Hx : Hid (s.data.toList[i]? = some x) := hxl
        clear hxl
        have hir := fun w => Try.strings_IndexRune_ascii c (x.toNat : Int) w (by omega) (by omega)
        have hcon := Lib.contains_iff_indexByte c.data.toList x
        have hback : ((x.toNat : Int)).toNat.toUInt8 = x := by simp
        rw [hback] at hir
        cases hin : c.data.toList.contains x
        · rw [hin] at hcon
          have hlt : ¬ ((0 : Int) ≤ Lib.indexByte c.data.toList x) := of_decide_eq_false hcon.symm
          have HIN : Hid (c.data.toList.contains x = false) := hin
          clear hcon hback hin
          go_wp2_with (go_at_call 51; refine (hir _).mono ?_; rintro e w' ⟨rfl, rfl⟩)
          go_roundg g
          case measure => omega
          case rel => exact ⟨i + 1, by omega, hit2, hbel2, HN.out.succ Hx.out HIN.out⟩
        · rw [hin] at hcon
          have hge : (0 : Int) ≤ Lib.indexByte c.data.toList x := of_decide_eq_true hcon.symm
          have HF : Hid (Lib.indexAny s.data.toList c.data.toList = i) := Lib.indexAny_hit HN.out Hx.out hin
          clear hcon hback hin
          go_wp2_with (go_at_call 51; refine (hir _).mono ?_; rintro e w' ⟨rfl, rfl⟩)
          go_ret
          exact ⟨by rw [HF.out]; rfl, by rw [HB.out]; exact hbel2⟩
      · obtain ⟨hd1, hd2, hd3⟩ := decode_skip s i hi (by omega)
        obtain ⟨hr1, _⟩ := decode_high s i hi (by omega)
        have hr2 := decode_le s i
        have hnx := fun ty => Lib.run_next_any_at (P := Try.prog) wr B s i ty hit hi
        have hit2 := Lib.iterAt_heap wr B s i (i + (Utf8.decode s i).2) hit
        have hbel2 : Below B w (wr.iterAt B s (i + (Utf8.decode s i).2)) := Lib.below_iterAt hbel (Nat.le_refl _) s _
        have hBlt2 : B < (wr.iterAt B s (i + (Utf8.decode s i).2)).heap.size := by rw [Lib.iterAt_size]; exact hBlt
        generalize (Utf8.decode s i).1 = r at *
        generalize (Utf8.decode s i).2 = d at *
        generalize wr.iterAt B s (i + d) = w2 at *
        have hir := fun w => indexRune_any c r HC.out hz hz4 hr1 hr2 w
        have HN2 : Hid (Lib.NoAny s.data.toList c.data.toList (i + d)) := by
          intro j b hj hb
          by_cases hji : j < i
          · exact HN.out j b hji hb
          · obtain ⟨b', h1, h2⟩ := hd3 j (by omega) hj
            rw [h1] at hb; have hb := Option.some.inj hb; subst hb
            exact HC.out.contains b' h2
        clear hd3 hr1 hr2
        go_wp2_with (go_at_call 51; refine (hir _).mono ?_; rintro e w3 ⟨rfl, hb3⟩)
        go_roundg (g + 1 - d)
        case measure => omega
        case rel => exact ⟨i + d, by omega, by rw [hb3.block B hBlt2]; exact hit2, hbel2.trans (hb3.mono (by omega)), HN2.out⟩

theorem hv67 : ∀ w, (zeroValue 67).run Try.prog w = .ok (.agg (Array.replicate 256 (.bool false))) w := fun w => by kernel_rfl

theorem indexAny_any (s c : ByteArray) (hc : Asc c) (hz : 3 ≤ c.size) (hz4 : c.size ≤ 4) (hs : s.size ≤ 10000000) (w : World) :
    Calls Try.prog 43 #[.string s, .string c] w fun e w' => e = .returned (.int .i64 (Lib.indexAny s.data.toList c.data.toList)) ∧ Below w.heap.size w w' := by
  by_cases h8 : s.size ≤ 8
  · exact indexAny_short s c hc hz hz4 h8 w
  · refine (Try.strings_IndexAny_long hv67 s c w (by omega) (by omega) (by omega) (by omega) ?_).mono ?_
    · intro j b hb
      obtain ⟨h1, h2⟩ := List.getElem?_eq_some_iff.1 hb
      have h5 : j < c.size := by simpa using h1
      have := hc j h5
      have h6 : (c[j]'h5) = b := h2
      rw [h6] at this; exact this
    · rintro e w' ⟨he, rfl⟩
      exact ⟨he, ((Below.refl _ _).alloc (Nat.le_refl _) _).alloc (by simp) _⟩
end Go.Proofs.Qxb6000768a
