import Derived.Test.Qxb6001093aW4
import Derived.Deep.CutBlock
import Derived.Lib.IndexLaws
set_option linter.unusedSimpArgs false
set_option linter.unusedVariables false
namespace Go.Proofs.Qxb6001093a
open Go.RowKit

def scells (vt : Value) (pos : Nat) (vu : Value) : Array Value := #[vt, .int .u64 0, .int .i64 pos, .bool false, .int .u8 0, .slice none 0 0, .bool false, vu]
theorem scAll {w : World} {b : Nat} {vt vu : Value} {pos : Nat} (h : Blk w b (scells vt pos vu) 50) :
    w.cell? ⟨b, 0, none⟩ = some vt ∧ w.cell? ⟨b, 2, none⟩ = some (.int .i64 pos) ∧ w.cell? ⟨b, 7, none⟩ = some vu ∧ (∀ j, w.frozen? ⟨b, j, none⟩ = false) := ⟨h.cell 0, h.cell 2, h.cell 7, h.thaw⟩

theorem ixb (l : Bs) (c : UInt8) (o : Nat) (h1 : l[o]? = some c) (h2 : ∀ j, j < o → l[j]? ≠ some c) : Lib.indexByte l c = o := by
  have hge := Lib.indexByte_ge l c
  by_cases h : Lib.indexByte l c = -1
  · exact absurd h1 (Lib.indexByte_none h o)
  · obtain ⟨m, hm⟩ := Int.eq_ofNat_of_zero_le (show 0 ≤ Lib.indexByte l c by omega)
    obtain ⟨e1, e2⟩ := Lib.indexByte_some hm
    rw [hm]
    rcases Nat.lt_trichotomy m o with h3 | h3 | h3
    · exact absurd e1 (h2 m h3)
    · rw [h3]
    · exact absurd h1 (e2 o h3)

/-- what holds while the quotes are sought -/
def QI (w : World) (sc : Nat) (vt vu : Value) (pos : Nat) (wx : World) : Prop :=
  Blk wx sc (scells vt pos vu) 50 ∧ Blk wx w.heap.size #[.int .u8 0, .slice none 0 0] 48 ∧ Below sc w wx
theorem QI.set {w : World} {sc : Nat} {vt vu : Value} {pos : Nat} {wx : World} (h : QI w sc vt vu pos wx) (hs : sc < w.heap.size) (p : Nat) : QI w sc vt vu p (wx.setCell ⟨sc, 2, none⟩ (.int .i64 p)) := by
  obtain ⟨h1, h2, h3⟩ := h
  exact ⟨h1.set 2 _, h2.setOther _ (by show sc ≠ _; omega) _, h3.setCell (Nat.le_refl _) _⟩
theorem QI.drewN {w : World} {sc : Nat} {vt vu : Value} {pos : Nat} {wx : World} (h : QI w sc vt vu pos wx) (n : Nat) : QI w sc vt vu pos (wx.drewN n) := by
  obtain ⟨h1, h2, h3⟩ := h
  exact ⟨h1, h2, ⟨h3.os, h3.tape, h3.output, h3.size, h3.block⟩⟩

/-- what quotedName leaves -/
def QPost (w : World) (sc : Nat) (vt : Value) (pos : Nat) (name U : Bs) (e : Ending) (w' : World) : Prop :=
  ∃ tok vu', e = .returned (.agg #[.int .u8 2, tok]) ∧ Reads w' tok name ∧ Blk w' sc (scells vt pos vu') 50 ∧ (∃ U' a c, vu' = .slice a (U ++ U').length c ∧ (U ++ U').length ≤ c ∧ Reads w' vu' (U ++ U')) ∧ Below sc w w'

theorem fin30 {Q : Ending → World → Prop} {a : Act} {wx : World} {rb : Nat} {cs : Array Value} {tok : Value} (hb : Blk wx rb cs 48) (hcs : cs.size = 2) (hd : a.defers = []) (hs : a.tmps[4]?.getD undef = .pointer (some ⟨rb, 0, none⟩))
    (hQ : Q (.returned (.agg #[.int .u8 2, tok])) ((wx.setCell ⟨rb, 0, none⟩ (.int .u8 2)).setCell ⟨rb, 1, none⟩ tok)) (htk : ∃ a n c, tok = .slice a n c) :
    bodyPost Try.prog Try.f30 Q Exit.ret a ((wx.setCell ⟨rb, 0, none⟩ (.int .u8 2)).setCell ⟨rb, 1, none⟩ tok) := by
  obtain ⟨ta, tn, tc, rfl⟩ := htk
  have h2 := (hb.set 0 (.int .u8 2)).set 1 (.slice ta tn tc)
  have e0 := h2.cell 0
  have e1 := h2.cell 1
  simp [hcs] at e0 e1
  exact bodyPost_ret (v := .agg #[.int .u8 2, .slice ta tn tc]) (by simp [results, Try.results30, hs, go_sem, e0, e1]) hd hQ
theorem fin30d {Q : Ending → World → Prop} {a : Act} {wx : World} {rb : Nat} {cs : Array Value} {tok : Value} (hb : Blk wx rb cs 48) (hcs : cs.size = 2) (hd : a.defers = []) (hs : a.tmps[4]?.getD undef = .pointer (some ⟨rb, 0, none⟩))
    (hQ : Q (.returned (.agg #[.int .u8 2, tok])) ((wx.setCell ⟨rb, 0, none⟩ (.int .u8 2)).setCell ⟨rb, 1, none⟩ tok).drew) (htk : ∃ a n c, tok = .slice a n c) :
    bodyPost Try.prog Try.f30 Q Exit.ret a ((wx.setCell ⟨rb, 0, none⟩ (.int .u8 2)).setCell ⟨rb, 1, none⟩ tok).drew := by
  obtain ⟨ta, tn, tc, rfl⟩ := htk
  have h2 : Blk ((wx.setCell ⟨rb, 0, none⟩ (.int .u8 2)).setCell ⟨rb, 1, none⟩ (.slice ta tn tc)).drew rb _ 48 := ((hb.set 0 (.int .u8 2)).set 1 (.slice ta tn tc)).drew
  have e0 := h2.cell 0
  have e1 := h2.cell 1
  simp [hcs] at e0 e1
  exact bodyPost_ret (v := .agg #[.int .u8 2, .slice ta tn tc]) (by simp [results, Try.results30, hs, go_sem, e0, e1]) hd hQ
theorem Full.reads {w : World} {v : Value} {xs : Bs} (h : Full w v xs) : Reads w v xs := by
  rcases h with ⟨rfl, rfl⟩ | ⟨g, rfl, h⟩
  · exact ⟨none, 0, rfl, .inl ⟨rfl, rfl⟩⟩
  · refine ⟨_, _, rfl, .inr ⟨_, rfl, fun i hi => ?_⟩⟩
    have hadd : (⟨g, 0, none⟩ : Addr).add i = ⟨g, i, none⟩ := by unfold Addr.add; split <;> simp_all
    rw [hadd]; exact h.cell i hi

theorem addy (g o i : Nat) : (⟨g, o, none⟩ : Addr).add i = ⟨g, o + i, none⟩ := by unfold Addr.add; split <;> simp_all
theorem addz (g i : Nat) : (⟨g, 0, none⟩ : Addr).add i = ⟨g, i, none⟩ := by unfold Addr.add; split <;> simp_all
theorem Full.len {w : World} {v : Value} {xs : Bs} (h : Full w v xs) : ∃ a, v = .slice a xs.length xs.length := by
  rcases h with ⟨rfl, rfl⟩ | ⟨g, rfl, h⟩
  · exact ⟨none, rfl⟩
  · exact ⟨_, rfl⟩
theorem ownLen {w : World} {B : Nat} {v : Value} {xs : Bs} (h : Own w B v xs) : ∃ a c, v = .slice a xs.length c := by
  obtain ⟨a, c, e, _⟩ := h.reads
  exact ⟨a, c, e⟩
theorem ownVal {w : World} {B : Nat} {v : Value} {xs : Bs} (h : Own w B v xs) : ∃ a n c, v = .slice a n c := by
  obtain ⟨a, c, e, _⟩ := h.reads
  exact ⟨a, _, c, e⟩
/-- what holds while the doubled quotes are read as one -/
def L2I (w wc : World) (sc : Nat) (vt vu : Value) (pos : Nat) (U name : Bs) (k : Nat) (v : Value) (wx : World) : Prop :=
  Blk wx sc (scells vt pos v) 50 ∧ Blk wx w.heap.size #[.int .u8 0, .slice none 0 0] 48 ∧ ((k = 0 ∧ v = vu) ∨ Own wx wc.heap.size v (U ++ name.take k)) ∧ Below sc w wx ∧ wc.heap.size ≤ wx.heap.size ∧ (∀ j, j < wc.heap.size → j ≠ sc → wx.heap[j]? = wc.heap[j]?)

/-- one more byte is appended -/
theorem L2I.push {w wc : World} {sc : Nat} {vt vu v v' : Value} {pos : Nat} {U name : Bs} {k : Nat} {wx wy w' : World} (h : L2I w wc sc vt vu pos U name k v wx) (hs : sc < wc.heap.size) (hrb : w.heap.size < wc.heap.size)
    (ho : Own w' wc.heap.size v' (U ++ name.take (k + 1))) (hb : Below wc.heap.size wy w') (hy : Below wc.heap.size wx wy) : L2I w wc sc vt vu pos U name (k + 1) v' (w'.setCell ⟨sc, 7, none⟩ v') := by
  obtain ⟨h1, h2, h3, h4, h5, h6⟩ := h
  have hxy := hy.trans hb
  have hne : w.heap.size ≠ sc := by
    intro e
    have := h1
    rw [← e] at this
    have h9 := h2
    unfold Blk at this h9
    rw [this] at h9
    simp at h9
  have hsc' := h1.below hxy hs
  refine ⟨hsc'.set 7 v', (h2.below hxy hrb).setOther _ (by show sc ≠ _; omega) _, .inr ?_, ?_, ?_, ?_⟩
  · refine World.ownsRow.kept ho (row := some sc) ⟨rfl, rfl, rfl, by simp, fun j hj hne' => Below.heap_setCell _ _ _ _ (by intro e; apply hne'; rw [e])⟩ ?_
    cases hv : v'.ownBlock with
    | none => exact .inl rfl
    | some b =>
      right
      intro e
      have := (World.ownsRow.lt ho b hv).1
      simp at e
      omega
  · exact (h4.trans (hxy.mono (by omega))).setCell (Nat.le_refl _) _
  · have := hxy.size
    simp
    omega
  · intro j hj hjs
    rw [Below.heap_setCell _ _ _ _ (by intro e; exact hjs e), hxy.block j hj, h6 j hj hjs]

theorem Full.belowAt {w w' : World} {v : Value} {xs : Bs} {B : Nat} (h : Full w v xs) (hk : ∀ k, v.ownBlock = some k → k < B) (hb : Below B w w') : Full w' v xs := by
  rcases h with h | ⟨g, rfl, h⟩
  · exact .inl h
  · exact .inr ⟨g, rfl, h.below hb (hk g rfl)⟩

set_option maxRecDepth 1000000 in
set_option maxHeartbeats 4000000 in
theorem quotedName_any (sc gT cT : Nat) (q : UInt8) (name t U : Bs) (vu : Value) (w : World) (hcT : (qt q name ++ t).length ≤ cT)
    (hsc : Blk w sc (scells (.slice (some ⟨gT, 0, none⟩) (qt q name ++ t).length cT) 0 vu) 50)
    (hT : ∀ (i : Nat) (h : i < (qt q name ++ t).length), w.cell? ⟨gT, i, none⟩ = some (.int .u8 ((qt q name ++ t)[i].toNat : Int)))
    (hgT : gT < sc) (hu : Full w vu U) (hub : ∀ k, vu.ownBlock = some k → k < sc) (ht : t.head? ≠ some q) (hln : name.length ≤ 100000) (hlt : t.length ≤ 100000) (hlU : U.length ≤ 100000) :
    Calls Try.prog 30 #[.pointer (some ⟨sc, 0, none⟩), .int .u8 (q.toNat : Int)] w fun e w' => QPost w sc (.slice (some ⟨gT, 0, none⟩) (qt q name ++ t).length cT) (qt q name).length name U e w' := by
  have hscl := hsc.lt
  have hQ0 : QI w sc (.slice (some ⟨gT, 0, none⟩) (qt q name ++ t).length cT) vu 0 (w.alloc (.cells #[.int .u8 0, .slice none 0 0] 48)) := ⟨hsc.alloc _, Blk.new w _ 48, (Below.refl _ _).alloc (Nat.le_of_lt hscl) _⟩
  have hqn : 1 ≤ (qt q name ++ t).length := by unfold qt; simp
  have hqL : (qt q name ++ t).length ≤ 400000 := by
    have := (dbl_len q name).2
    unfold qt; simp; omega
  have HTX : Hid (∀ k, (qt q name ++ t).drop (1 + (dbl q (name.take k)).length) = dbl q (name.drop k) ++ q :: t) := fun k => text_at q name t k
  have HQN : Hid ((qt q name).length = (dbl q name).length + 2) := by show _ = _; unfold qt; simp
  generalize hTT : qt q name ++ t = T at *
  have HTT : Hid (qt q name ++ t = T) := hTT
  clear hTT hsc
  go_enter Try.func30, Try.ntmps30
  go_upto_region 1 with fail
  generalize w.alloc (.cells #[.int .u8 0, .slice none 0 0] 48) = w1 at *
  obtain ⟨c0, c2, c7, cf⟩ := scAll hQ0.1
  go_upto_region 2 with fail
  have hQ1 := hQ0.set hscl 1
  clear hQ0 c0 c2 c7 cf
  generalize hW2 : w1.setCell ⟨sc, 2, none⟩ (.int .i64 ((1 : Nat) : Int)) = w2 at *
  clear hW2
  obtain ⟨c0, c2, c7, cf⟩ := scAll hQ1.1
  go_quiet (fail)
  replace hQ1 := hQ1.drewN nq
  clear c0 c2 c7 cf
  generalize w2.drewN nq = w3 at *
  go_upto_block 0 with fail
  go_cut [6, 7, 8] (fun e d _ wx => e = .int .i64 ((1 + (dbl q name).length : Nat) : Int) ∧ d = .bool (decide (q ∈ name)) ∧ QI w sc (.slice (some ⟨gT, 0, none⟩) T.length cT) vu (qt q name).length wx)
  case first =>
    go_wp2_with fail
    go_loopg [6, 7, 8] name.length (fun g e d _ wx => ∃ k, k + g = name.length ∧ d = .bool (decide (q ∈ name.take k)) ∧ e = .int .i64 T.length ∧ QI w sc (.slice (some ⟨gT, 0, none⟩) T.length cT) vu (1 + (dbl q (name.take k)).length) wx)
    case atStart => exact ⟨0, by omega, by simp, rfl, by simpa [dbl] using hQ1⟩
    case round =>
      obtain ⟨k, hkg, rfl, rfl, hq⟩ := hrel
      obtain ⟨c0, c2, c7, cf⟩ := scAll hq.1
      have htx := HTX.out k
      have hposl : 1 + (dbl q (name.take k)).length < T.length := by
        have := congrArg List.length htx
        simp at this
        omega
      have htsz : (ByteArray.mk (T.drop (1 + (dbl q (name.take k)).length)).toArray).size = T.length - (1 + (dbl q (name.take k)).length) := by show (T.drop _).toArray.size = _; simp
      have hLB : Lib.Bytes wr gT (1 + (dbl q (name.take k)).length) ⟨(T.drop (1 + (dbl q (name.take k)).length)).toArray⟩ := by
        intro i hi
        have hi' : i < (T.drop (1 + (dbl q (name.take k)).length)).length := by rw [htsz] at hi; simpa using hi
        have hi2 : 1 + (dbl q (name.take k)).length + i < T.length := by simp at hi'; omega
        have h1 := hT _ hi2
        have hgl : gT < w.heap.size := by omega
        rw [hq.2.2.cell (p := ⟨gT, 1 + (dbl q (name.take k)).length + i, none⟩) hgT, h1]
        congr 3
        show _ = ((T.drop (1 + (dbl q (name.take k)).length)).toArray[i]).toNat
        simp
      have hix : ∀ n c, Calls Try.prog 35 #[.slice (some ⟨gT, 1 + (dbl q (name.take k)).length, none⟩) (T.length - (1 + (dbl q (name.take k)).length)) c, .int .u8 (q.toNat : Int)] (wr.drewN n) fun e w' => e = .returned (.int .i64 (Lib.indexByte (dbl q (name.drop k) ++ q :: t) q)) ∧ w' = wr.drewN n := by
        intro n c
        have := Try.bytes_IndexByte_bytes gT (1 + (dbl q (name.take k)).length) c ⟨(T.drop (1 + (dbl q (name.take k)).length)).toArray⟩ (q.toNat : Int) (wr.drewN n) (hLB.drewN n)
        rw [htsz] at this
        simpa [htx] using this
      clear hLB htsz
      obtain ⟨p, HPP⟩ : ∃ p, Hid (p = 1 + (dbl q (name.take k)).length) := ⟨_, rfl⟩
      rw [← HPP.out] at hix c2 hq htx hposl
      obtain ⟨ix, HIX⟩ : ∃ ix, Hid (ix = Lib.indexByte (dbl q (name.drop k) ++ q :: t) q) := ⟨_, rfl⟩
      rw [← HIX.out] at hix
      have hpc : (p : Int) ≤ (T.length : Int) := by omega
      go_upto_region 4 with fail
      go_quiet (first | (go_at_call 35; exact (hix _ _).mono (fun _ _ h => ⟨h.1, _, h.2⟩)))
      replace hq := hq.drewN nq
      clear c0 c2 c7 cf hix
      generalize wr.drewN nq = wq at *
      obtain ⟨c0, c2, c7, cf⟩ := scAll hq.1
      by_cases hin : q ∈ name.drop k
      · obtain ⟨u, m, hum, hqu⟩ := List.eq_append_cons_of_mem hin
        have hdr : dbl q (name.drop k) = u ++ q :: q :: dbl q m := by rw [hum, dbl_app, dbl_none q u hqu]; simp [dbl]
        rw [hdr] at htx
        have hixv : ix = (u.length : Nat) := by
          rw [HIX.out, hdr]
          refine ixb _ q _ (by simp) ?_
          intro j hj e
          rw [List.append_assoc, List.getElem?_append_left hj] at e
          exact hqu (List.mem_of_getElem? e)
        subst hixv
        have hul : k + u.length + 1 ≤ name.length := by
          have := congrArg List.length hum
          simp at this
          omega
        have htk : name.take (k + u.length + 1) = name.take k ++ (u ++ [q]) := by
          have h1 : name.take (k + (u.length + 1)) = name.take k ++ (name.drop k).take (u.length + 1) := by rw [List.take_add]
          rw [show k + u.length + 1 = k + (u.length + 1) by omega, h1, hum]
          congr 1
          rw [show u ++ q :: m = (u ++ [q]) ++ m by simp, show u.length + 1 = (u ++ [q]).length by simp, List.take_left]
        have HK2 : Hid (1 + (dbl q (name.take (k + u.length + 1))).length = p + u.length + 1 + 1 ∧ q ∈ name.take (k + u.length + 1)) := by
          refine ⟨?_, by rw [htk]; simp⟩
          rw [htk, dbl_app, dbl_app, dbl_none q u hqu, HPP.out]
          simp [dbl]; omega
        have hTl : p + u.length + 1 < T.length := by
          have := congrArg List.length htx
          simp at this
          omega
        have hTg : T[p + u.length + 1] = q := by
          have h1 : T[p + u.length + 1]? = (T.drop p)[u.length + 1]? := by rw [List.getElem?_drop]; congr 1
          rw [htx, List.append_assoc, List.getElem?_append_right (by omega), show u.length + 1 - u.length = 1 by omega, List.getElem?_eq_getElem hTl] at h1
          simpa using h1
        have hul2 : u.length ≤ 100000 := by omega
        clear htk hdr hum hin hqu htx
        generalize hN : u.length = nl at *
        have hnn : ¬ ((nl : Int) < 0) := by omega
        go_upto_region 8 with fail
        have hq8 := hq.set hscl (p + nl + 1)
        have e8 : ((p : Int) + ((nl : Int) + 1)) = ((p + nl + 1 : Nat) : Int) := by omega
        rw [e8]
        clear c0 c2 c7 cf hq e8
        generalize wq.setCell ⟨sc, 2, none⟩ (.int .i64 ((p + nl + 1 : Nat) : Int)) = w8 at *
        generalize hP8 : p + nl + 1 = P8 at *
        obtain ⟨c0, c2, c7, cf⟩ := scAll hq8.1
        have hcell : w8.cell? ⟨gT, P8, none⟩ = some (.int .u8 (q.toNat : Int)) := by
          rw [hq8.2.2.cell (p := ⟨gT, P8, none⟩) hgT, hT P8 hTl, hTg]
        have n1 : ((q.toNat : Int) != (q.toNat : Int)) = false := by simp
        have g1 : ((P8 : Int) == (T.length : Int)) = false := by rw [beq_eq_false_iff_ne]; omega
        have g2 : decide ((P8 : Int) = (T.length : Int)) = false := by rw [decide_eq_false_iff_not]; omega
        have g3 : (P8 : Int) < (T.length : Int) := by omega
        clear hTg
        go_quiet (fail)
        obtain ⟨d0, d2, d7, df⟩ := scAll (hq8.drewN nq).1
        go_wp2
        go_roundg (gk - (nl + 1))
        case measure => omega
        case rel =>
          have h1 := HK2.out
          have h9 := (hq8.drewN nq).set hscl (P8 + 1)
          rw [← h1.1] at h9
          refine ⟨k + nl + 1, by omega, by simp [h1.2], rfl, ?_⟩
          have e9 : ((1 + (dbl q (name.take (k + nl + 1))).length : Nat) : Int) = (P8 : Int) + 1 := by rw [h1.1]; simp
          rw [e9] at h9
          exact h9
      · have hdn := dbl_none q _ hin
        rw [hdn] at htx
        have hixv : ix = ((name.drop k).length : Nat) := by
          rw [HIX.out, hdn]
          refine ixb _ q _ (by simp) ?_
          intro j hj e
          rw [List.getElem?_append_left hj] at e
          exact hin (List.mem_of_getElem? e)
        subst hixv
        have hnl : (name.drop k).length ≤ 100000 := by simp; omega
        have HPOS : Hid (p + (name.drop k).length + 1 = (qt q name).length ∧ T.length = p + (name.drop k).length + 1 + t.length ∧ (q ∈ name ↔ q ∈ name.take k)) := by
          refine ⟨?_, ?_, ?_⟩
          · rw [HQN.out, HPP.out]
            have : dbl q name = dbl q (name.take k) ++ dbl q (name.drop k) := by rw [← dbl_app, List.take_append_drop]
            rw [this, hdn]; simp; omega
          · have := congrArg List.length htx
            simp at this
            simp
            omega
          · constructor
            · intro h
              rw [← List.take_append_drop k name] at h
              rcases List.mem_append.1 h with h | h
              · exact h
              · exact absurd h hin
            · intro h; exact List.mem_of_mem_take h
        generalize hN : (name.drop k).length = nl at *
        have hnn : ¬ ((nl : Int) < 0) := by omega
        go_upto_region 8 with fail
        have hq8 := hq.set hscl (p + nl + 1)
        have e8 : ((p : Int) + ((nl : Int) + 1)) = ((p + nl + 1 : Nat) : Int) := by omega
        rw [e8]
        clear c0 c2 c7 cf hq e8
        generalize wq.setCell ⟨sc, 2, none⟩ (.int .i64 ((p + nl + 1 : Nat) : Int)) = w8 at *
        generalize hP8 : p + nl + 1 = P8 at *
        obtain ⟨c0, c2, c7, cf⟩ := scAll hq8.1
        have hP1 : 1 ≤ P8 := by omega
        have hfin : ∀ n, (Value.int .i64 ((P8 : Int) - 1) = .int .i64 ((1 + (dbl q name).length : Nat) : Int) ∧ Value.bool (decide (q ∈ name.take k)) = .bool (decide (q ∈ name)) ∧ QI w sc (.slice (some ⟨gT, 0, none⟩) T.length cT) vu (qt q name).length (w8.drewN n)) := by
          intro n
          have h1 := HPOS.out
          have h2 := HQN.out
          refine ⟨by congr 1; omega, by simp [h1.2.2], ?_⟩
          rw [← h1.1]; exact hq8.drewN n
        have HFIN : Hid (∀ n, (Value.int .i64 ((P8 : Int) - 1) = .int .i64 ((1 + (dbl q name).length : Nat) : Int) ∧ Value.bool (decide (q ∈ name.take k)) = .bool (decide (q ∈ name)) ∧ QI w sc (.slice (some ⟨gT, 0, none⟩) T.length cT) vu (qt q name).length (w8.drewN n))) := hfin
        clear hfin
        cases htc : t with
        | nil =>
          obtain rfl : P8 = T.length := by have := HPOS.out.2.1; rw [htc] at this; simp at this; omega
          go_quiet (fail)
          obtain ⟨d0, d2, d7, df⟩ := scAll (hq8.drewN nq).1
          go_wp2
          go_meet
          exact HFIN.out nq
        | cons cc tt =>
          have hTl := HPOS.out.2.1
          rw [htc] at hTl
          simp only [List.length_cons] at hTl
          have hlt8 : P8 < T.length := by omega
          have hcc : cc ≠ q := by intro e; apply ht; rw [htc, e]; rfl
          have hTg : T[P8] = cc := by
            have h1 : T[P8]? = (T.drop p)[nl + 1]? := by rw [List.getElem?_drop]; congr 1; omega
            rw [htx, htc, List.getElem?_append_right (by omega), hN, show nl + 1 - nl = 1 by omega] at h1
            rw [List.getElem?_eq_getElem hlt8] at h1
            simpa using h1
          have hcell : w8.cell? ⟨gT, P8, none⟩ = some (.int .u8 (cc.toNat : Int)) := by
            rw [hq8.2.2.cell (p := ⟨gT, P8, none⟩) hgT, hT P8 hlt8, hTg]
          have n1 : ((cc.toNat : Int) != (q.toNat : Int)) = true := by rw [u8_ne]; simp [hcc]
          have g1 : ((P8 : Int) == (T.length : Int)) = false := by rw [beq_eq_false_iff_ne]; omega
          have g2 : decide ((P8 : Int) = (T.length : Int)) = false := by rw [decide_eq_false_iff_not]; omega
          have g3 : (P8 : Int) < (T.length : Int) := by omega
          clear hTg hcc hTl htc
          go_quiet (fail)
          obtain ⟨d0, d2, d7, df⟩ := scAll (hq8.drewN nq).1
          go_wp2
          go_meet
          exact HFIN.out nq
  case rest =>
    obtain ⟨rfl, rfl, hq⟩ := hcut
    obtain ⟨wd, hwd⟩ : ∃ wd, wd = wc := ⟨_, rfl⟩
    rw [← hwd] at hq
    rw [← hwd]
    clear hwd
    clear hQ1
    have hdl := dbl_len q name
    have hTl : T.length = (dbl q name).length + 2 + t.length := by
      have := HQN.out
      rw [← HTT.out, List.length_append, this]
    have HTG : Hid (∀ (i : Nat) (h : i < (dbl q name).length) (h' : 1 + i < T.length), T[1 + i] = (dbl q name)[i]) := by
      intro i h h'
      have h0 : T.drop 1 = dbl q name ++ q :: t := HTX.out 0
      have h1 : T[1 + i]? = (T.drop 1)[i]? := by rw [List.getElem?_drop]
      rw [h0, List.getElem?_append_left h, List.getElem?_eq_getElem h', List.getElem?_eq_getElem h] at h1
      exact Option.some.inj h1
    have hcells : ∀ (i : Nat) (h : i < (dbl q name).length), wd.cell? ⟨gT, 1 + i, none⟩ = some (.int .u8 ((dbl q name)[i].toNat : Int)) := by
      intro i h
      have h' : 1 + i < T.length := by omega
      rw [hq.2.2.cell (p := ⟨gT, 1 + i, none⟩) hgT, hT (1 + i) h', HTG.out i h h']
    obtain ⟨c0, c2, c7, cf⟩ := scAll hq.1
    have rb0 := hq.2.1.cell 0
    have rb1 := hq.2.1.cell 1
    have rbf := hq.2.1.thaw
    simp at rb0 rb1
    have b1 : ((1 : Int) ≤ ((1 + (dbl q name).length : Nat) : Int)) := by omega
    have b2 : (((1 + (dbl q name).length : Nat) : Int) ≤ (cT : Int)) := by omega
    have HTL : Hid (T.length = (dbl q name).length + 2 + t.length) := hTl
    clear hTl
    by_cases hin : q ∈ name
    · have hdd : decide (q ∈ name) = true := decide_eq_true hin
      rw [hdd]
      have hnp : 0 < name.length := by
        rcases Nat.eq_zero_or_pos name.length with h | h
        · rw [List.eq_nil_of_length_eq_zero h] at hin; simp at hin
        · exact h
      have hnl : ¬ (1 + (dbl q name).length = 1) := by omega
      obtain ⟨ua, uc, hvu⟩ : ∃ a c, vu = .slice a U.length c := Src.len (N := 0) (.inr hu)
      subst hvu
      have hL0 : L2I w wd sc (.slice (some ⟨gT, 0, none⟩) T.length cT) (.slice ua U.length uc) (qt q name).length U name 0 (.slice ua U.length uc) wd := ⟨hq.1, hq.2.1, .inl ⟨rfl, rfl⟩, hq.2.2, Nat.le_refl _, fun j _ _ => rfl⟩
      go_wp2_with fail
      clear c0 c2 c7 cf rb0 rb1 rbf
      rw [show 1 + (dbl q name).length - 1 = (dbl q name).length by omega]
      go_loopg [11] name.length (fun g i wx => ∃ k v, k + g = name.length ∧ i = .int .i64 ((dbl q (name.take k)).length : Nat) ∧ L2I w wd sc (.slice (some ⟨gT, 0, none⟩) T.length cT) (.slice ua U.length uc) (qt q name).length U name k v wx)
      case atStart => exact ⟨0, _, by omega, rfl, hL0⟩
      case round =>
        obtain ⟨k, v, hkg, rfl, hL⟩ := hrel
        have hdk := dbl_take_len q name k
        have hwsz : wd.heap.size ≤ wr.heap.size := hL.2.2.2.2.1
        have hscN : sc < wd.heap.size := hq.1.lt
        have hgN : gT < wd.heap.size := by omega
        have hsplit : dbl q name = dbl q (name.take k) ++ dbl q (name.drop k) := by rw [← dbl_app, List.take_append_drop]
        obtain ⟨s0, s2, s7, sf⟩ := scAll hL.1
        by_cases hlt2 : k < name.length
        · have hdc : name.drop k = name[k] :: name.drop (k + 1) := List.drop_eq_getElem_cons hlt2
          have hdlt : (dbl q (name.take k)).length < (dbl q name).length := by
            rw [hsplit, hdc]; simp [dbl]; split <;> simp
          have hget : (dbl q name)[(dbl q (name.take k)).length]? = some name[k] := by
            rw [hsplit, List.getElem?_append_right (Nat.le_refl _), Nat.sub_self, hdc]
            simp only [dbl]
            split
            · rename_i h; simp [h]
            · simp
          have hcell : wr.cell? ⟨gT, 1 + (dbl q (name.take k)).length, none⟩ = some (.int .u8 (name[k].toNat : Int)) := by
            have h1 := hcells _ hdlt
            rw [List.getElem?_eq_getElem hdlt] at hget
            rw [Option.some.inj hget] at h1
            rw [World.cell?_of_block (w := wd) (w' := wr) (a := ⟨gT, 1 + (dbl q (name.take k)).length, none⟩) (hL.2.2.2.2.2 gT hgN (by omega))]
            exact h1
          have hsrc : Src wr wd.heap.size v (U ++ name.take k) := by
            rcases hL.2.2.1 with ⟨h0, h1⟩ | h
            · subst h0 h1
              rw [List.take_zero, List.append_nil]
              refine .inr (hu.belowAt hub hL.2.2.2.1)
            · exact .inl h
          have hlen : (U ++ name.take k).length + 1 ≤ 100000000 := by simp; omega
          have htk : U ++ name.take k ++ [name[k]] = U ++ name.take (k + 1) := by rw [take_snoc name k hlt2]; simp
          have hstep : (dbl q (name.take (k + 1))).length = (dbl q (name.take k)).length + (if name[k] = q then 2 else 1) := by
            rw [take_snoc name k hlt2, dbl_app, List.length_append]
            simp only [dbl]
            split <;> rfl
          have HH : Hid ((U ++ name.take k ++ [name[k]] = U ++ name.take (k + 1)) ∧ (dbl q (name.take (k + 1))).length = (dbl q (name.take k)).length + (if name[k] = q then 2 else 1)) := ⟨htk, hstep⟩
          clear hsplit hdc hget htk hstep
          generalize hdd2 : (dbl q (name.take k)).length = dk at *
          generalize name[k] = ck at *
          have hsrcD : Src wr.drew wd.heap.size v (U ++ name.take k) := hsrc
          have s7a : (wr.alloc (.cells #[.int .u8 (ck.toNat : Int)] 5)).cell? ⟨sc, 7, none⟩ = some v := by rw [World.cell?_alloc_lt _ _ _ (Nat.lt_of_lt_of_le hscN hwsz)]; exact s7
          have hsrcA : Src (wr.alloc (.cells #[.int .u8 (ck.toNat : Int)] 5)) wd.heap.size v (U ++ name.take k) := hsrc.alloc _
          go_upto_region 19 with fail
          go_cut [11] (fun i wx => i = .int .i64 (dk : Nat) ∧ ∃ v', L2I w wd sc (.slice (some ⟨gT, 0, none⟩) T.length cT) (.slice ua U.length uc) (qt q name).length U name (k + 1) v' wx)
          case first =>
            go_region_law (refine step_push rfl (.tmp 121) (.tmp 126) rfl wd.heap.size v (U ++ name.take k) rfl (by first | exact hsrcD.alloc _ | exact hsrcA) (by simp; omega) wr.heap.size 1 ck rfl (by simp) hlen ?_; intro v' w' ho' hb'; obtain ⟨na, nn, nc, rfl⟩ := ownVal ho'; have hs7' : w'.cell? ⟨sc, 7, none⟩ = some v := (by rw [hb'.cell (p := ⟨sc, 7, none⟩) hscN]; simpa [World.cell?_alloc_lt, Nat.lt_of_lt_of_le hscN hwsz] using s7); have hsf' : w'.frozen? ⟨sc, 7, none⟩ = false := (by rw [World.frozen?_of_block (w := wr) (a := ⟨sc, 7, none⟩)]; exact sf 7; rw [hb'.block sc hscN]; exact Below.heap_alloc _ _ sc (Nat.lt_of_lt_of_le hscN hwsz)))
            all_goals
              go_wp2
              go_meet
              exact ⟨rfl, _, L2I.push hL hscN hq.2.1.lt (HH.out.1 ▸ ho') hb' (by first | exact Below.alloc (Below.refl _ _) hwsz _ | exact (Below.alloc (Below.refl _ _) hwsz _).drew | exact (Below.refl _ _).drew.alloc hwsz _)⟩
          case rest =>
            obtain ⟨rfl, v', hL'⟩ := hcut
            have hcell' : wc.cell? ⟨gT, 1 + dk, none⟩ = some (.int .u8 (ck.toNat : Int)) := by
              rw [World.cell?_of_block (w := wd) (w' := wc) (a := ⟨gT, 1 + dk, none⟩) (hL'.2.2.2.2.2 gT hgN (by omega)), ← World.cell?_of_block (w := wd) (w' := wr) (a := ⟨gT, 1 + dk, none⟩) (hL.2.2.2.2.2 gT hgN (by omega))]
              exact hcell
            clear hcell s0 s2 s7 sf s7a hsrcA hsrcD hsrc hL
            by_cases hqq : ck = q
            · have n1 : ((ck.toNat : Int) == (q.toNat : Int)) = true := by rw [hqq]; simp
              have H2 : Hid ((dbl q (name.take (k + 1))).length = dk + 1 + 1) := by show _ = _; rw [HH.out.2, if_pos hqq]
              clear hqq HH
              go_wp2
              go_roundg (gk - 1)
              case measure => omega
              case rel => exact ⟨k + 1, v', by omega, by rw [H2.out]; go_num, hL'⟩
            · have n1 : ((ck.toNat : Int) == (q.toNat : Int)) = false := by rw [beq_eq_false_iff_ne]; intro e; exact hqq (UInt8.toNat_inj.1 (by omega))
              have H2 : Hid ((dbl q (name.take (k + 1))).length = dk + 1) := by show _ = _; rw [HH.out.2, if_neg hqq]
              clear hqq HH
              go_wp2
              go_roundg (gk - 1)
              case measure => omega
              case rel => exact ⟨k + 1, v', by omega, by rw [H2.out]; go_num, hL'⟩
        · obtain rfl : k = name.length := by omega
          have hown : Own wr wd.heap.size v (U ++ name) := by
            rcases hL.2.2.1 with ⟨h0, _⟩ | h
            · omega
            · rwa [List.take_length] at h
          rw [List.take_length]
          obtain ⟨g', c', rfl, hcap, hg'⟩ : ∃ g' c', v = .slice (some ⟨g', 0, none⟩) (U.length + name.length) c' ∧ (U.length + name.length ≤ c') ∧ wd.heap.size ≤ g' := by
            obtain ⟨h1, h2⟩ := hown
            rcases h2 with ⟨rfl, h3⟩ | ⟨g, cap, cur, rfl, hge, _, hcap, _⟩
            · rw [List.length_append] at h3; omega
            · rw [List.length_append] at hcap
              exact ⟨g, cap, by rw [List.length_append], by omega, hge⟩
          have hrd : ∀ (i : Nat) (h : i < (U ++ name).length), wr.cell? ⟨g', i, none⟩ = some (.int .u8 ((U ++ name)[i].toNat : Int)) := by
            obtain ⟨a, c, e, h⟩ := hown.reads
            rcases h with ⟨rfl, _⟩ | ⟨x, rfl, h⟩
            · simp only [Value.slice.injEq, reduceCtorEq, false_and] at e
            · simp only [Value.slice.injEq, Option.some.injEq] at e
              obtain ⟨rfl, _⟩ := e
              intro i hi
              have := h i hi
              rwa [addz] at this
          have r0 := hL.2.1.cell 0
          have r1 := hL.2.1.cell 1
          have rf := hL.2.1.thaw
          simp at r0 r1
          have z1 : ((U.length : Int) ≤ ((U.length + name.length : Nat) : Int)) := by omega
          have z2 : (((U.length + name.length : Nat) : Int) ≤ (c' : Int)) := by omega
          clear hsplit hdk hcells
          go_upto_region 22 with fail
          have HFIN : Hid (QPost w sc (.slice (some ⟨gT, 0, none⟩) T.length cT) (qt q name).length name U (.returned (.agg #[.int .u8 2, .slice (some ⟨g', U.length, none⟩) name.length name.length])) ((wr.setCell ⟨w.heap.size, 0, none⟩ (.int .u8 2)).setCell ⟨w.heap.size, 1, none⟩ (.slice (some ⟨g', U.length, none⟩) name.length name.length)).drew) := by
            have hrb : w.heap.size < wd.heap.size := hq.2.1.lt
            have hgne : g' ≠ w.heap.size := by omega
            have hcl : ∀ i, ((wr.setCell ⟨w.heap.size, 0, none⟩ (.int .u8 2)).setCell ⟨w.heap.size, 1, none⟩ (.slice (some ⟨g', U.length, none⟩) name.length name.length)).drew.cell? ⟨g', i, none⟩ = wr.cell? ⟨g', i, none⟩ := by
              intro i
              refine World.cell?_of_block (a := ⟨g', i, none⟩) ?_
              show ((wr.setCell ⟨w.heap.size, 0, none⟩ (.int .u8 2)).setCell ⟨w.heap.size, 1, none⟩ (.slice (some ⟨g', U.length, none⟩) name.length name.length)).heap[g']? = wr.heap[g']?
              rw [Below.heap_setCell _ _ _ _ (by intro e; exact hgne e), Below.heap_setCell _ _ _ _ (by intro e; exact hgne e)]
            refine ⟨_, .slice (some ⟨g', 0, none⟩) (U.length + name.length) c', rfl, ⟨_, _, rfl, .inr ⟨_, rfl, ?_⟩⟩, ((hL.1.setOther _ (by show w.heap.size ≠ sc; omega) _).setOther _ (by show w.heap.size ≠ sc; omega) _).drew, ⟨name, _, c', by rw [List.length_append], by rw [List.length_append]; exact hcap, ⟨_, _, by rw [List.length_append], .inr ⟨_, rfl, ?_⟩⟩⟩, ?_⟩
            · intro i hi
              rw [addy, hcl, hrd _ (by rw [List.length_append]; omega)]
              rw [List.getElem_append_right (by omega)]
              simp only [Nat.add_sub_cancel_left]
            · intro i hi
              rw [addz, hcl, hrd i hi]
            · exact ((hL.2.2.2.1.setCell (p := ⟨w.heap.size, 0, none⟩) (Nat.le_of_lt hscl) _).setCell (p := ⟨w.heap.size, 1, none⟩) (Nat.le_of_lt hscl) _).drew
          go_region
          go_wp2
          refine fin30d hL.2.1 rfl rfl rfl ?_ ⟨_, _, _, rfl⟩
          exact HFIN.out
    · have hdn := dbl_none q name hin
      have hdd : decide (q ∈ name) = false := decide_eq_false hin
      rw [hdd]
      rw [hdn] at hcells b1 b2
      rw [hdn]
      have HFIN : Hid (∀ x n c, (n = name.length) → (name = [] ∨ x = ⟨gT, 1, none⟩) → QPost w sc (.slice (some ⟨gT, 0, none⟩) T.length cT) (qt q name).length name U (.returned (.agg #[.int .u8 2, .slice (some x) n c])) ((wd.setCell ⟨w.heap.size, 0, none⟩ (.int .u8 2)).setCell ⟨w.heap.size, 1, none⟩ (.slice (some x) n c))) := by
        rintro x n c rfl hx
        have hbe : Below sc w ((wd.setCell ⟨w.heap.size, 0, none⟩ (.int .u8 2)).setCell ⟨w.heap.size, 1, none⟩ (.slice (some x) name.length c)) := (hq.2.2.setCell (p := ⟨w.heap.size, 0, none⟩) (Nat.le_of_lt hscl) _).setCell (p := ⟨w.heap.size, 1, none⟩) (Nat.le_of_lt hscl) _
        refine ⟨_, vu, rfl, ⟨_, _, rfl, .inr ⟨_, rfl, ?_⟩⟩, (hq.1.setOther _ (by show w.heap.size ≠ sc; omega) _).setOther _ (by show w.heap.size ≠ sc; omega) _, ⟨[], hu.len.choose, U.length, ?_, by simp, ?_⟩, hbe⟩
        · intro i hi
          rcases hx with rfl | rfl
          · simp at hi
          · have hadd : (⟨gT, 1, none⟩ : Addr).add i = ⟨gT, 1 + i, none⟩ := by unfold Addr.add; split <;> simp_all
            rw [hadd, hbe.cell (p := ⟨gT, 1 + i, none⟩) hgT, ← hq.2.2.cell (p := ⟨gT, 1 + i, none⟩) hgT]
            exact hcells i hi
        · rw [List.append_nil]
          exact hu.len.choose_spec
        · rw [List.append_nil]
          exact (hu.belowAt hub hbe).reads
      by_cases hnil : name = []
      · subst hnil
        have HF2 := HFIN
        go_wp2
        refine fin30 hq.2.1 rfl rfl rfl ?_ ⟨_, _, _, rfl⟩
        exact HF2.out _ _ _ (by simp) (.inl (by simp))
      · have hnl : ¬ (1 + name.length = 1) := by
          have := List.length_pos_iff.2 hnil
          omega
        go_wp2
        refine fin30 hq.2.1 rfl rfl rfl ?_ ⟨_, _, _, rfl⟩
        exact HFIN.out _ _ _ rfl (.inr rfl)
end Go.Proofs.Qxb6001093a
