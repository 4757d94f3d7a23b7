import Derived.Test.Qxb6000768aW7
import Derived.Test.Qxb6000768aX1
import Derived.Test.Qxb6000768aL3
import Derived.Deep.DeepCutAuto
set_option linter.unusedSimpArgs false
set_option linter.unusedVariables false
namespace Go.Proofs.Qxb6000768a
open Go.RowKit

/-- the string of a list of bytes -/
def S (l : Bs) : ByteArray := ⟨l.toArray⟩
theorem S_data (l : Bs) : (S l).data.toList = l := rfl
theorem S_size (l : Bs) : (S l).size = l.length := by show l.toArray.size = _; simp
theorem S_of (x : ByteArray) : x = S x.data.toList := by cases x; simp [S]
theorem S_eq {x : ByteArray} {l : Bs} (h : x.data.toList = l) : x = S l := by rw [← h]; exact S_of x

/-- a block of cells -/
def Blk (w : World) (b : Nat) (cs : Array Value) (T : TypeId) : Prop := w.heap[b]? = some (.cells cs T (0, 0))
theorem Blk.lt {w : World} {b : Nat} {cs : Array Value} {T : TypeId} (h : Blk w b cs T) : b < w.heap.size := lt_of_some h
theorem Blk.cell {w : World} {b : Nat} {cs : Array Value} {T : TypeId} (h : Blk w b cs T) (j : Nat) : w.cell? ⟨b, j, none⟩ = cs[j]? := by
  unfold Blk at h; simp [World.cell?, h]
theorem Blk.thaw {w : World} {b : Nat} {cs : Array Value} {T : TypeId} (h : Blk w b cs T) (j : Nat) : w.frozen? ⟨b, j, none⟩ = false := by
  unfold Blk at h; simp [World.frozen?, h]
theorem Blk.below {w w' : World} {b B : Nat} {cs : Array Value} {T : TypeId} (h : Blk w b cs T) (hb : Below B w w') (hB : b < B) : Blk w' b cs T := by
  unfold Blk; rw [hb.block b hB]; exact h
theorem Blk.set {w : World} {b : Nat} {cs : Array Value} {T : TypeId} (h : Blk w b cs T) (j : Nat) (v : Value) : Blk (w.setCell ⟨b, j, none⟩ v) b (cs.setIfInBounds j v) T := by
  unfold Blk at h ⊢
  simp [World.setCell, Array.getElem?_modify, h]
theorem Blk.setOther {w : World} {b : Nat} {cs : Array Value} {T : TypeId} (h : Blk w b cs T) (a : Addr) (ha : a.block ≠ b) (v : Value) : Blk (w.setCell a v) b cs T := by
  unfold Blk at h ⊢
  rw [Below.heap_setCell _ _ _ _ (Ne.symm ha)]; exact h
theorem Blk.alloc {w : World} {b : Nat} {cs : Array Value} {T : TypeId} (h : Blk w b cs T) (o : Obj) : Blk (w.alloc o) b cs T := by
  unfold Blk; rw [Below.heap_alloc _ _ _ h.lt]; exact h
theorem Blk.new (w : World) (cs : Array Value) (T : TypeId) : Blk (w.alloc (.cells cs T)) w.heap.size cs T := (MapKept.heap_alloc w _).1
theorem Blk.drew {w : World} {b : Nat} {cs : Array Value} {T : TypeId} (h : Blk w b cs T) : Blk w.drew b cs T := h

theorem asc4 : Asc ⟨#[58, 47, 63, 35]⟩ := by
  intro j h
  have h4 : j < 4 := h
  have : j = 0 ∨ j = 1 ∨ j = 2 ∨ j = 3 := by omega
  rcases this with rfl | rfl | rfl | rfl
  · show (58 : UInt8).toNat < 128; decide
  · show (47 : UInt8).toNat < 128; decide
  · show (63 : UInt8).toNat < 128; decide
  · show (35 : UInt8).toNat < 128; decide
theorem asc3 : Asc ⟨#[47, 63, 35]⟩ := by
  intro j h
  have h4 : j < 3 := h
  have : j = 0 ∨ j = 1 ∨ j = 2 := by omega
  rcases this with rfl | rfl | rfl
  · show (47 : UInt8).toNat < 128; decide
  · show (63 : UInt8).toNat < 128; decide
  · show (35 : UInt8).toNat < 128; decide

/-- some number lies in the library's variable -/
def MX (w : World) : Prop := ∃ m, w.cell? ⟨0, 0, none⟩ = some (.int .i64 m)
theorem MX.pos {w : World} (h : MX w) : 0 < w.heap.size := by
  obtain ⟨m, h⟩ := h
  rcases Nat.eq_zero_or_pos w.heap.size with h0 | h0
  · rw [World.cell?, Array.getElem?_eq_none (by show w.heap.size ≤ 0; omega)] at h; simp at h
  · exact h0
theorem MX.below {w w' : World} {B : Nat} (h : MX w) (hb : Below B w w') (hB : 0 < B) : MX w' := by
  obtain ⟨m, h⟩ := h
  exact ⟨m, by rw [hb.cell (p := ⟨0, 0, none⟩) hB]; exact h⟩

/-- the cells of a 'reference' -/
def refCells (sc au pa qu fr : Bs) (hs ha hq hf : Bool) : Array Value := #[.string (S sc), .string (S au), .string (S pa), .string (S qu), .string (S fr), .bool hs, .bool ha, .bool hq, .bool hf]

theorem cs_true {l : Bs} {u : Nat} (hu : upTo [58, 47, 63, 35] l = u) (h : (cutScheme l).2.2 = true) : 0 < u ∧ u < l.length ∧ l[u]? = some 58 ∧ cutScheme l = (l.take u, l.drop (u + 1), true) := by
  unfold cutScheme at h ⊢
  rw [hu] at h ⊢
  by_cases hc : 0 < u ∧ l[u]? = some 58
  · rw [if_pos hc]
    exact ⟨hc.1, (List.getElem?_eq_some_iff.1 hc.2).1, hc.2, rfl⟩
  · rw [if_neg hc] at h; simp at h
theorem cs_false {l : Bs} (h : (cutScheme l).2.2 = false) : cutScheme l = ([], l, false) := by
  unfold cutScheme at h ⊢
  by_cases hc : 0 < upTo [58, 47, 63, 35] l ∧ l[upTo [58, 47, 63, 35] l]? = some 58
  · rw [if_pos hc] at h; simp at h
  · rw [if_neg hc]
theorem cs_bool {l : Bs} {u : Nat} (hu : upTo [58, 47, 63, 35] l = u) : (cutScheme l).2.2 = decide (0 < u ∧ l[u]? = some 58) := by
  unfold cutScheme
  rw [hu]
  by_cases hc : 0 < u ∧ l[u]? = some 58
  · rw [if_pos hc]; simp [hc]
  · rw [if_neg hc]; simp [hc]
theorem cutAt_no {c : UInt8} {l a b : Bs} (h : cutAt c l = (a, b, false)) : a = l ∧ b = [] := by
  unfold cutAt at h
  split at h
  · simp at h
  · simp at h; exact ⟨h.1.symm, h.2⟩
theorem str_eq {x : ByteArray} {l : Bs} (h : x.data.toList = l) : Value.string x = Value.string (S l) := by rw [S_eq h]

/-- what holds between split's statements -/
def SpI (w : World) (B : Nat) (l sc au qu fr : Bs) (hs ha hq hf : Bool) (s0 : Value) (wx : World) : Prop :=
  s0 = .string (S l) ∧ Blk wx (B + 1) (refCells sc au [] qu fr hs ha hq hf) 48 ∧ Blk wx B (refCells [] [] [] [] [] false false false false) 48 ∧ Below B w wx

theorem Blk.to {w : World} {b : Nat} {cs cs' : Array Value} {T : TypeId} (h : Blk w b cs T) (e : cs = cs') : Blk w b cs' T := by rw [← e]; exact h
theorem ret33 {Q : Ending → World → Prop} {a : Act} {W : World} {B : Nat} {sc au pa qu fr : Bs} {bs ba bq bf : Bool} (hd : a.defers = []) (hs : a.tmps[2]?.getD undef = .pointer (some ⟨B, 0, none⟩)) (hW : Blk W B (refCells sc au pa qu fr bs ba bq bf) 48)
    (h : Q (.returned (.agg (refCells sc au pa qu fr bs ba bq bf))) W) : bodyPost Try.prog Try.f33 Q Exit.ret a W := by
  have e0 := hW.cell 0
  have e1 := hW.cell 1
  have e2 := hW.cell 2
  have e3 := hW.cell 3
  have e4 := hW.cell 4
  have e5 := hW.cell 5
  have e6 := hW.cell 6
  have e7 := hW.cell 7
  have e8 := hW.cell 8
  simp [refCells] at e0 e1 e2 e3 e4 e5 e6 e7 e8
  exact bodyPost_ret (v := .agg (refCells sc au pa qu fr bs ba bq bf)) (by simp [results, Try.results33, hs, go_sem, refCells, e0, e1, e2, e3, e4, e5, e6, e7, e8]) hd h

set_option maxHeartbeats 1000000 in
theorem split_any (s : ByteArray) (hs : s.size ≤ 10000000) (w : World) (hm : MX w) :
    Calls Try.prog 33 #[.string s] w fun e w' => e = .returned (.agg (refCells (parse s.data.toList).scheme (parse s.data.toList).authority (parse s.data.toList).path (parse s.data.toList).query (parse s.data.toList).fragment (parse s.data.toList).hs (parse s.data.toList).ha (parse s.data.toList).hq (parse s.data.toList).hf)) ∧ Below w.heap.size w w' := by
  have hia := fun w => indexAny_any s ⟨#[58, 47, 63, 35]⟩ asc4 (by decide) (by decide) hs w
  have hiv := indexAny_upTo [58, 47, 63, 35] s.data.toList
  have hul := upTo_le [58, 47, 63, 35] s.data.toList
  rw [show (ByteArray.mk #[58, 47, 63, 35]).data.toList = [58, 47, 63, 35] from rfl, hiv] at hia
  generalize hU : upTo [58, 47, 63, 35] s.data.toList = u at *
  generalize hI : (if u < s.data.toList.length then (u : Int) else -1) = iv at *
  have HU : Hid (upTo [58, 47, 63, 35] s.data.toList = u) := hU
  have HI : Hid ((if u < s.data.toList.length then (u : Int) else -1) = iv) := hI
  have HUL : Hid (u ≤ s.data.toList.length) := hul
  clear hU hI hiv hul
  go_enter Try.func33, Try.ntmps33
  go_upto_region 3 with (go_at_call 43; refine (hia _).mono ?_; rintro e w1 ⟨rfl, hb1⟩)
  have hS1 : SpI w w.heap.size s.data.toList [] [] [] [] false false false false (.string s) w1 := by
    have hz : ((w.alloc (.cells (refCells [] [] [] [] [] false false false false) 48)).alloc (.cells (refCells [] [] [] [] [] false false false false) 48)).heap.size = w.heap.size + 2 := by simp
    have e1 : Blk ((w.alloc (.cells (refCells [] [] [] [] [] false false false false) 48)).alloc (.cells (refCells [] [] [] [] [] false false false false) 48)) (w.heap.size + 1) (refCells [] [] [] [] [] false false false false) 48 := by
      have h := Blk.new (w.alloc (.cells (refCells [] [] [] [] [] false false false false) 48)) (refCells [] [] [] [] [] false false false false) 48
      have hz : (w.alloc (.cells (refCells [] [] [] [] [] false false false false) 48)).heap.size = w.heap.size + 1 := by simp
      rw [hz] at h; exact h
    have e2 : Blk ((w.alloc (.cells (refCells [] [] [] [] [] false false false false) 48)).alloc (.cells (refCells [] [] [] [] [] false false false false) 48)) w.heap.size (refCells [] [] [] [] [] false false false false) 48 := (Blk.new w _ 48).alloc _
    have hb1' : Below (w.heap.size + 2) ((w.alloc (.cells (refCells [] [] [] [] [] false false false false) 48)).alloc (.cells (refCells [] [] [] [] [] false false false false) 48)) w1 := by
      rw [← hz]; exact hb1
    exact ⟨str_eq rfl, e1.below hb1' (by omega), e2.below hb1' (by omega), (((Below.refl _ _).alloc (Nat.le_refl _) _).alloc (by simp) _).trans (hb1'.mono (by omega))⟩
  clear hb1 hia
  generalize hB : w.heap.size = B at *
  have HBB : Hid (w.heap.size = B) := hB
  clear hB
  go_cut [23] (fun b wx => b = .bool (cutScheme s.data.toList).2.2 ∧ w1 = wx)
  case first =>
    by_cases hlt : u < s.data.toList.length
    · obtain rfl : (u : Int) = iv := by have h := HI.out; rw [if_pos hlt] at h; exact h
      have hls : u < s.size := by rw [← blen]; exact hlt
      have hb : (cutScheme s.data.toList).2.2 = decide (0 < u ∧ s.data.toList[u]? = some 58) := cs_bool HU.out
      by_cases h0 : 0 < u
      · have e58 : ((s[u].toNat : Int) == 58) = (cutScheme s.data.toList).2.2 := by
          rw [hb, lget s u hls]
          rw [Bool.eq_iff_iff]; simp only [beq_iff_eq, decide_eq_true_eq, Option.some.injEq]
          constructor
          · intro e; exact ⟨h0, UInt8.toNat_inj.1 (by show s[u].toNat = 58; omega)⟩
          · rintro ⟨_, e⟩; rw [e]; rfl
        have H58 : Hid (((s[u].toNat : Int) == 58) = (cutScheme s.data.toList).2.2) := e58
        clear e58 hb
        go_wp2
        go_meet
        exact ⟨by rw [H58.out], rfl⟩
      · have hbf : Hid ((cutScheme s.data.toList).2.2 = false) := by show _ = _; rw [hb]; simp [h0]
        clear hb
        go_wp2
        go_meet
        exact ⟨by rw [hbf.out], rfl⟩
    · obtain rfl : (-1 : Int) = iv := by have h := HI.out; rw [if_neg hlt] at h; exact h
      have hbf : Hid ((cutScheme s.data.toList).2.2 = false) := by
        show _ = _
        rw [cs_bool HU.out, List.getElem?_eq_none (by omega)]; simp
      go_wp2
      go_meet
      exact ⟨by rw [hbf.out], rfl⟩
  case rest =>
    obtain ⟨rfl, rfl⟩ := hcut
    go_upto_if 23 with fail
    go_cut [0] (fun s0 wx => SpI w B (cutScheme s.data.toList).2.1 (cutScheme s.data.toList).1 [] [] [] (cutScheme s.data.toList).2.2 false false false s0 wx)
    case first =>
      cases hb : (cutScheme s.data.toList).2.2 with
      | false =>
        have h1 := cs_false hb
        have hS2 : SpI w B (cutScheme s.data.toList).2.1 (cutScheme s.data.toList).1 [] [] [] false false false false (.string s) w1 := by rw [h1]; exact hS1
        clear h1
        go_wp2
        go_meet
        rw [hb]
        exact hS2
      | true =>
        obtain ⟨h0, hlt, h58, hcs⟩ := cs_true HU.out hb
        obtain rfl : (u : Int) = iv := by have h := HI.out; rw [if_pos hlt] at h; exact h
        have hls : u < s.size := by rw [← blen]; exact hlt
        obtain ⟨k0, k1, k2, k3⟩ := hS1
        have c0 := k1.cell 0
        have c5 := k1.cell 5
        have f0 := k1.thaw
        simp [refCells] at c0 c5
        have HCS : Hid (cutScheme s.data.toList = (s.data.toList.take u, s.data.toList.drop (u + 1), true)) := hcs
        have hw1 : IntKind.i64.wrap ((u : Int) + 1) = (u : Int) + 1 := wrap_small _ (by omega) (by omega)
        clear hcs h58 hlt hb
        go_wp2
        go_region
        all_goals go_wp2
        all_goals go_meet
        case rel =>
          rw [HCS.out, S_eq (ext_take s u)]
          exact ⟨str_eq (ext_list s (u + 1)), (k1.set 0 _).set 5 _, (k2.setOther _ (by simp) _).setOther _ (by simp) _, ((k3.setCell (by simp) _).setCell (by simp) _).drew⟩
    case rest =>
      clear hS1
      have hl1 : (cutScheme s.data.toList).2.1.length ≤ 10000000 := by have := cutScheme_len s.data.toList; rw [blen] at this; omega
      have HP : Hid (∀ P : PRef → Prop, P (parse s.data.toList) → P (parse s.data.toList)) := fun _ h => h
      clear HU HI HUL
      generalize hC1 : cutScheme s.data.toList = C1 at *
      have HC1 : Hid (cutScheme s.data.toList = C1) := hC1
      clear hC1
      obtain ⟨sc, l1, bs⟩ := C1
      simp only at hl1 hcut
      obtain ⟨rfl, k1, k2, k3⟩ := hcut
      have hcp := fun w => Try.strings_CutPrefix (S l1) ⟨#[47, 47]⟩ w
      have hcp1 : Lib.hasPrefix (S l1).data.toList (ByteArray.mk #[47, 47]).data.toList = (cutAuth l1).2.2 := by
        show List.isPrefixOf [47, 47] l1 = _
        unfold cutAuth
        cases List.isPrefixOf [47, 47] l1 <;> rfl
      have hcp2 : Lib.trimPrefix (S l1).data.toList (ByteArray.mk #[47, 47]).data.toList = if (cutAuth l1).2.2 then l1.drop 2 else l1 := by
        unfold Lib.trimPrefix; rw [hcp1]; rfl
      rw [hcp1, hcp2] at hcp
      clear hcp1 hcp2
      generalize hR : (if (cutAuth l1).2.2 then l1.drop 2 else l1) = R at *
      have HR : Hid ((if (cutAuth l1).2.2 then l1.drop 2 else l1) = R) := hR
      clear hR
      go_upto_if 38 with (first | (go_at_call 44; refine (hcp _).mono ?_; rintro e w2 ⟨rfl, hw2⟩; have hw2 := hw2.symm; subst hw2))
      clear hcp
      go_cut [0, 5, 6, 7] (fun s0 _ _ _ wx => SpI w B (cutAuth l1).2.1 sc (cutAuth l1).1 [] [] bs (cutAuth l1).2.2 false false s0 wx)
      case first =>
        cases hb : (cutAuth l1).2.2 with
        | false =>
          have h1 : cutAuth l1 = ([], l1, false) := by
            unfold cutAuth at hb ⊢
            by_cases hc : List.isPrefixOf [47, 47] l1 = true
            · rw [if_pos hc] at hb; simp at hb
            · rw [if_neg hc]
          go_wp2
          go_meet
          rw [h1]
          exact ⟨rfl, k1, k2, k3⟩
        | true =>
          have h1 : cutAuth l1 = ((l1.drop 2).take (upTo [47, 63, 35] (l1.drop 2)), (l1.drop 2).drop (upTo [47, 63, 35] (l1.drop 2)), true) := by
            unfold cutAuth at hb ⊢
            by_cases hc : List.isPrefixOf [47, 47] l1 = true
            · rw [if_pos hc]
            · rw [if_neg hc] at hb; simp at hb
          obtain rfl : l1.drop 2 = R := by have h := HR.out; rw [hb] at h; exact h
          have hr2 : (l1.drop 2).length ≤ 10000000 := by simp; omega
          generalize l1.drop 2 = R at *
          have hia := fun w => indexAny_any (S R) ⟨#[47, 63, 35]⟩ asc3 (by decide) (by decide) (by rw [S_size]; omega) w
          rw [show (ByteArray.mk #[47, 63, 35]).data.toList = [47, 63, 35] from rfl, S_data, indexAny_upTo] at hia
          have hul := upTo_le [47, 63, 35] R
          have hSz : (S R).size = R.length := S_size R
          generalize hv : upTo [47, 63, 35] R = v at *
          clear hv
          have H1 : Hid (cutAuth l1 = (R.take v, R.drop v, true)) := h1
          have k1l := k1.lt
          have k2l := k2.lt
          clear h1 hb HR
          by_cases hlt : v < R.length
          · rw [if_pos hlt] at hia
            have hneg : ¬ ((v : Int) < 0) := by omega
            go_upto_region 10 with (first | (go_at_call 43; refine (hia _).mono ?_; rintro e w3 ⟨rfl, hb3⟩))
            have j1 := k1.below hb3 k1l
            have j2 := k2.below hb3 k2l
            have j3 := k3.trans (hb3.mono (by omega))
            have c1 := j1.cell 1
            have c6 := j1.cell 6
            have f0 := j1.thaw
            simp [refCells] at c1 c6
            clear hia
            go_region
            all_goals go_wp2
            all_goals go_meet
            case rel =>
              have q1 := ext_list (S R) v
              have q2 := ext_take (S R) v
              rw [S_size] at q1
              rw [H1.out, show (ByteArray.mk R.toArray).extract 0 v = S (R.take v) from S_eq q2]
              exact ⟨str_eq q1, (j1.set 1 _).set 6 _, (j2.setOther _ (by simp) _).setOther _ (by simp) _, ((j3.setCell (by simp) _).setCell (by simp) _).drew⟩
          · rw [if_neg hlt] at hia
            go_upto_region 10 with (first | (go_at_call 43; refine (hia _).mono ?_; rintro e w3 ⟨rfl, hb3⟩))
            have j1 := k1.below hb3 k1l
            have j2 := k2.below hb3 k2l
            have j3 := k3.trans (hb3.mono (by omega))
            have c1 := j1.cell 1
            have c6 := j1.cell 6
            have f0 := j1.thaw
            simp [refCells] at c1 c6
            clear hia
            go_region
            all_goals go_wp2
            all_goals go_meet
            case rel =>
              obtain rfl : v = R.length := by omega
              have q2 := ext_take (S R) R.length
              rw [H1.out, show (ByteArray.mk R.toArray).extract 0 R.length = S (R.take R.length) from S_eq q2]
              exact ⟨str_eq (by rw [List.drop_length]; rfl), (j1.set 1 _).set 6 _, (j2.setOther _ (by simp) _).setOther _ (by simp) _, ((j3.setCell (by simp) _).setCell (by simp) _).drew⟩
      case rest =>
        have hl2 : (cutAuth l1).2.1.length ≤ 10000000 := by have := cutAuth_len l1; omega
        generalize hC2 : cutAuth l1 = C2 at *
        have HC2 : Hid (cutAuth l1 = C2) := hC2
        clear hC2 HR k1 k2 k3
        obtain ⟨au, l2, ba⟩ := C2
        simp only at hl2 hcut
        obtain ⟨rfl, k1, k2, k3⟩ := hcut
        have hmx : MX wc := hm.below k3 (by have := hm.pos; have := HBB.out; omega)
        obtain ⟨m, hmc⟩ := hmx
        have hct := Try.strings_Cut (S l2) ⟨#[35]⟩ m wc (by rw [S_size]; omega) hmc
        rw [show (ByteArray.mk #[35]).data.toList = [35] from rfl, S_data, cut_lib] at hct
        generalize hC3 : cutAt 35 l2 = C3 at *
        have HC3 : Hid (cutAt 35 l2 = C3) := hC3
        have hl3 : C3.1.length ≤ 10000000 := by have := cutAt_len 35 l2; rw [hC3] at this; omega
        clear hC3
        obtain ⟨l3, fr, bf⟩ := C3
        simp only at hct hl3
        go_upto_if 59 with (first | (go_at_call 45; refine hct.mono ?_; rintro e w4 ⟨rfl, n4, rfl⟩))
        clear hct hmc
        go_cut [0, 8, 9, 10] (fun s0 _ _ _ wx => SpI w B l3 sc au [] fr bs ba false bf s0 wx)
        case first =>
          cases bf with
          | false =>
            obtain ⟨rfl, rfl⟩ := cutAt_no HC3.out
            go_wp2
            go_meet
            exact ⟨rfl, k1, k2, belowDrewN k3 _⟩
          | true =>
            have c1 := k1.cell 4
            have c6 := k1.cell 8
            have f0 := k1.thaw
            simp [refCells] at c1 c6
            go_wp2
            go_meet
            case rel => exact ⟨rfl, (Blk.set (w := wc.drewN n4) k1 4 _).set 8 _, (Blk.setOther (w := wc.drewN n4) k2 _ (by simp) _).setOther _ (by simp) _, ((belowDrewN k3 _).setCell (by simp) _).setCell (by simp) _⟩
        case rest =>
          clear k1 k2 k3
          obtain ⟨rfl, k1, k2, k3⟩ := hcut
          have hmx : MX wc := hm.below k3 (by have := hm.pos; have := HBB.out; omega)
          obtain ⟨m, hmc⟩ := hmx
          have hct := Try.strings_Cut (S l3) ⟨#[63]⟩ m wc (by rw [S_size]; omega) hmc
          rw [show (ByteArray.mk #[63]).data.toList = [63] from rfl, S_data, cut_lib] at hct
          generalize hC4 : cutAt 63 l3 = C4 at *
          have HC4 : Hid (cutAt 63 l3 = C4) := hC4
          clear hC4
          obtain ⟨l4, qu, bq⟩ := C4
          simp only at hct
          go_upto_if 70 with (first | (go_at_call 45; refine hct.mono ?_; rintro e w5 ⟨rfl, n5, rfl⟩))
          clear hct hmc
          go_cut [0, 11, 12, 13] (fun s0 _ _ _ wx => SpI w B l4 sc au qu fr bs ba bq bf s0 wx)
          case first =>
            cases bq with
            | false =>
              obtain ⟨rfl, rfl⟩ := cutAt_no HC4.out
              go_wp2
              go_meet
              exact ⟨rfl, k1, k2, belowDrewN k3 _⟩
            | true =>
              have c1 := k1.cell 3
              have c6 := k1.cell 7
              have f0 := k1.thaw
              simp [refCells] at c1 c6
              go_wp2
              go_meet
              case rel => exact ⟨rfl, (Blk.set (w := wc.drewN n5) k1 3 _).set 7 _, (Blk.setOther (w := wc.drewN n5) k2 _ (by simp) _).setOther _ (by simp) _, ((belowDrewN k3 _).setCell (by simp) _).setCell (by simp) _⟩
          case rest =>
            clear k1 k2 k3
            obtain ⟨rfl, k1, k2, k3⟩ := hcut
            have HFIN : Hid (refCells (parse s.data.toList).scheme (parse s.data.toList).authority (parse s.data.toList).path (parse s.data.toList).query (parse s.data.toList).fragment (parse s.data.toList).hs (parse s.data.toList).ha (parse s.data.toList).hq (parse s.data.toList).hf = refCells sc au l4 qu fr bs ba bq bf) := by
              show _ = _
              simp only [parse, HC1.out, HC2.out, HC3.out, HC4.out]
            have c0 := k1.cell 0
            have c1 := k1.cell 1
            have c2 := k1.cell 2
            have c3 := k1.cell 3
            have c4 := k1.cell 4
            have c5 := k1.cell 5
            have c6 := k1.cell 6
            have c7 := k1.cell 7
            have c8 := k1.cell 8
            have f1 := k1.thaw
            have d0 := k2.cell 0
            have d1 := k2.cell 1
            have d2 := k2.cell 2
            have d3 := k2.cell 3
            have d4 := k2.cell 4
            have d5 := k2.cell 5
            have d6 := k2.cell 6
            have d7 := k2.cell 7
            have d8 := k2.cell 8
            have f2 := k2.thaw
            simp [refCells] at c0 c1 c2 c3 c4 c5 c6 c7 c8 d0 d1 d2 d3 d4 d5 d6 d7 d8
            clear HC1 HC2 HC3 HC4 HP hl1 hl2 hl3
            go_wp2
            refine ret33 (B := B) (sc := sc) (au := au) (pa := l4) (qu := qu) (fr := fr) (bs := bs) (ba := ba) (bq := bq) (bf := bf) rfl rfl ?_ ⟨by rw [← HFIN.out], ?_⟩
            · exact Blk.to ((((((((((k2.setOther _ (by simp) _).set 0 _).set 1 _).set 2 _).set 3 _).set 4 _).set 5 _).set 6 _).set 7 _).set 8 _) (by simp [refCells])
            · rw [HBB.out]
              exact (((((((((k3.setCell (by simp) _).setCell (by simp) _).setCell (by simp) _).setCell (by simp) _).setCell (by simp) _).setCell (by simp) _).setCell (by simp) _).setCell (by simp) _).setCell (by simp) _).setCell (by simp) _
end Go.Proofs.Qxb6000768a
