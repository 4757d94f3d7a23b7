import Derived.Test.Qxb6000768aY4
import Derived.Deep.RegionHeld3
import Derived.Deep.DrawnRows
set_option linter.unusedSimpArgs false
set_option linter.unusedVariables false
attribute [local go_sem ↓] Go.wp_at_zero Go.wp_at_succ
namespace Go.Proofs.Qxb6000768a
open Go.RowKit

theorem ret23 {Q : Ending → World → Prop} {a : Act} {W : World} {B : Nat} {sc au pa qu di : Option Addr} {ro ef : Bool} (hd : a.defers = []) (hs : a.tmps[4]?.getD undef = .pointer (some ⟨B, 0, none⟩)) (hW : Blk W B (baseCells sc au pa qu di ro ef) 33)
    (h : Q (.returned (.agg (baseCells sc au pa qu di ro ef))) W) : bodyPost Try.prog Try.f23 Q Exit.ret a W := by
  have e0 := hW.cell 0
  have e1 := hW.cell 1
  have e2 := hW.cell 2
  have e3 := hW.cell 3
  have e4 := hW.cell 4
  have e5 := hW.cell 5
  have e6 := hW.cell 6
  simp [baseCells] at e0 e1 e2 e3 e4 e5 e6
  exact bodyPost_ret (v := .agg (baseCells sc au pa qu di ro ef)) (by simp [results, Try.results23, hs, go_sem, baseCells, e0, e1, e2, e3, e4, e5, e6]) hd h

/-- what stays while ZZTarget's one region runs -/
def ZtS (W0 : World) (B : Nat) (sc au pa qu di : Option Addr) (ro ef : Bool) (w' : World) : Prop :=
  Below W0.heap.size W0 w' ∧ w'.cell? ⟨B, 0, none⟩ = some (.pointer sc) ∧ w'.cell? ⟨B, 1, none⟩ = some (.pointer au) ∧ w'.cell? ⟨B, 2, none⟩ = some (.pointer pa) ∧ w'.cell? ⟨B, 3, none⟩ = some (.pointer qu) ∧ w'.cell? ⟨B, 4, none⟩ = some (.pointer di) ∧ w'.cell? ⟨B, 5, none⟩ = some (.bool ro) ∧ w'.cell? ⟨B, 6, none⟩ = some (.bool ef) ∧
  w'.cell? ⟨B + 1, 0, none⟩ = some (.pointer none) ∧ w'.cell? ⟨B + 1, 1, none⟩ = some (.pointer none) ∧ w'.cell? ⟨B + 1, 2, none⟩ = some (.pointer none) ∧ w'.cell? ⟨B + 1, 3, none⟩ = some (.pointer none) ∧ w'.cell? ⟨B + 1, 4, none⟩ = some (.pointer none) ∧ w'.cell? ⟨B + 1, 5, none⟩ = some (.bool false) ∧ w'.cell? ⟨B + 1, 6, none⟩ = some (.bool false) ∧ (∀ j, w'.frozen? ⟨B + 1, j, none⟩ = false)
theorem ZtS.mk' {W0 : World} {B : Nat} {sc au pa qu di : Option Addr} {ro ef : Bool} (k0 : Blk W0 B (baseCells sc au pa qu di ro ef) 33) (k1 : Blk W0 (B + 1) (baseCells none none none none none false false) 33) {w' : World} (hb : Below W0.heap.size W0 w') : ZtS W0 B sc au pa qu di ro ef w' := by
  obtain ⟨b0, b1, b2, b3, b4, b5, b6, b7⟩ := baseAll (k0.below hb k0.lt)
  obtain ⟨c0, c1, c2, c3, c4, c5, c6, c7⟩ := baseAll (k1.below hb k1.lt)
  exact ⟨hb, b0, b1, b2, b3, b4, b5, b6, c0, c1, c2, c3, c4, c5, c6, c7⟩

set_option maxRecDepth 1000000 in
set_option maxHeartbeats 8000000 in
theorem zzTarget_any {M : Nat} {w : World} {b : PRef} (s : ByteArray) {sb ab : Nat} {pa qu di : Option Addr} {ro : Bool} (ef : Bool) {scs aus pas qus ds : List ByteArray} (ok : BaseOK M w b sb ab pa qu di ro scs aus pas qus ds) (hm : MX w)
    (hM : M + s.size ≤ 9000000) :
    Calls Try.prog 23 #[.agg (baseCells (some ⟨sb, 0, none⟩) (some ⟨ab, 0, none⟩) pa qu di ro ef), .string s] w fun e w' =>
      ∃ ab' pa' qu' di' ro' ef' aus' pas' qus' ds', e = .returned (.agg (baseCells (some ⟨sb, 0, none⟩) (some ⟨ab', 0, none⟩) pa' qu' di' ro' ef')) ∧
        BaseOK (M + s.size + 10) w' (resolve b (parse s.data.toList)) sb ab' pa' qu' di' ro' scs aus' pas' qus' ds' ∧ Below w.heap.size w w' := by
  have hpl := parse_len s.data.toList
  rw [blen] at hpl
  have hW1 := Blk.new w (baseCells (some ⟨sb, 0, none⟩) (some ⟨ab, 0, none⟩) pa qu di ro ef) 33
  have k0 := hW1.alloc (.cells (baseCells none none none none none false false) 33)
  have k1 := Blk.new (w.alloc (.cells (baseCells (some ⟨sb, 0, none⟩) (some ⟨ab, 0, none⟩) pa qu di ro ef) 33)) (baseCells none none none none none false false) 33
  rw [sz1] at k1
  have kb : Below w.heap.size w ((w.alloc (.cells (baseCells (some ⟨sb, 0, none⟩) (some ⟨ab, 0, none⟩) pa qu di ro ef) 33)).alloc (.cells (baseCells none none none none none false false) 33)) := ((Below.refl _ _).alloc (Nat.le_refl _) _).alloc (by rw [sz1]; omega) _
  clear hW1
  have hs0 := s.size
  generalize hW0 : (w.alloc (.cells (baseCells (some ⟨sb, 0, none⟩) (some ⟨ab, 0, none⟩) pa qu di ro ef) 33)).alloc (.cells (baseCells none none none none none false false) 33) = W0 at *
  have hm0 : MX W0 := hm.below kb hm.pos
  have c33 : ∀ w', Below W0.heap.size W0 w' → Calls Try.prog 33 #[.string s] w' fun e w'' => e = .returned (.agg (refCells (parse s.data.toList).scheme (parse s.data.toList).authority (parse s.data.toList).path (parse s.data.toList).query (parse s.data.toList).fragment (parse s.data.toList).hs (parse s.data.toList).ha (parse s.data.toList).hq (parse s.data.toList).hf)) ∧ Below W0.heap.size W0 w'' := by
    intro w' h
    refine (split_any s (by omega) w' (hm0.below h hm0.pos)).mono ?_
    rintro e w'' ⟨he, hb⟩
    exact ⟨he, h.trans (hb.mono h.size)⟩
  have c36 : ∀ w', Below W0.heap.size W0 w' → Calls Try.prog 36 #[.agg (baseCells (some ⟨sb, 0, none⟩) (some ⟨ab, 0, none⟩) pa qu di ro ef), .agg (refCells (parse s.data.toList).scheme (parse s.data.toList).authority (parse s.data.toList).path (parse s.data.toList).query (parse s.data.toList).fragment (parse s.data.toList).hs (parse s.data.toList).ha (parse s.data.toList).hq (parse s.data.toList).hf)] w' fun e w'' =>
      ∃ ab' pa' qu' di' ro' ef' aus' pas' qus' ds', e = .returned (.agg (baseCells (some ⟨sb, 0, none⟩) (some ⟨ab', 0, none⟩) pa' qu' di' ro' ef')) ∧ Below W0.heap.size W0 w'' ∧ Hid (BaseOK (M + s.size + 10) w'' (resolve b (parse s.data.toList)) sb ab' pa' qu' di' ro' scs aus' pas' qus' ds') := by
    intro w' h
    have ok' := ok.keep ((Kp.below kb).trans (Kp.below h))
    refine (tgt_any (parse s.data.toList) ef ok' (by omega)).mono ?_
    rintro e w'' ⟨ab', pa', qu', di', ro', ef', aus', pas', qus', ds', he, hok, hb⟩
    refine ⟨ab', pa', qu', di', ro', ef', aus', pas', qus', ds', he, h.trans (hb.mono h.size), ?_⟩
    exact { hok with len := Nat.le_trans hok.len (by omega), dlen := Nat.le_trans hok.dlen (by omega) }
  have hst : ∀ w', Below W0.heap.size W0 w' → ZtS W0 w.heap.size (some ⟨sb, 0, none⟩) (some ⟨ab, 0, none⟩) pa qu di ro ef w' := fun w' h => ZtS.mk' k0 k1 h
  have HK : Hid (Blk W0 (w.heap.size + 1) (baseCells none none none none none false false) 33) := k1
  have HKB : Hid (Below w.heap.size w W0) := kb
  have HSZ : Hid (w.heap.size + 1 < W0.heap.size) := k1.lt
  clear hpl k0 k1 kb ok hm hm0 hM hs0
  generalize parse s.data.toList = R at *
  unfold baseCells refCells ZtS at *
  go_enter Try.func23, Try.ntmps23
  go_upto_region 1 with fail
  clear hW0
  generalize hB : w.heap.size = B at *
  have HBB : Hid (w.heap.size = B) := hB
  clear hB
  have HST : Hid (∀ w', Below W0.heap.size W0 w' → ZtS W0 B (some ⟨sb, 0, none⟩) (some ⟨ab, 0, none⟩) pa qu di ro ef w') := hst
  have hbr : Below W0.heap.size W0 W0 := Below.refl _ _
  obtain ⟨s0, s1, s2, s3, s4, s5, s6, s7, s8, s9, s10, s11, s12, s13, s14, s15⟩ := hst W0 hbr
  clear hst
  go_region_with (first | (go_at_call 33; refine (c33 _ hbr.drew).mono ?_; rintro e w3 ⟨rfl, hb3⟩; obtain ⟨_, u1, u2, u3, u4, u5, u6, u7, u8, u9, u10, u11, u12, u13, u14, u15⟩ := HST.out w3 hb3) | (go_at_call 36; refine (c36 _ hb3).mono ?_; rintro e w4 ⟨ab', pa', qu', di', ro', ef', aus', pas', qus', ds', rfl, hb4, HB9⟩; obtain ⟨_, v1, v2, v3, v4, v5, v6, v7, v8, v9, v10, v11, v12, v13, v14, v15⟩ := HST.out w4 hb4))
  all_goals go_wp2
  all_goals
    have k4 := HK.out.below hb4 HSZ.out
    have hbf := HKB.out.trans (hb4.mono (Nat.le_of_lt (Nat.lt_of_succ_lt HSZ.out)))
    obtain ⟨f1, f2⟩ := fin7 k4 (by rfl) (.pointer (some ⟨sb, 0, none⟩)) (.pointer (some ⟨ab', 0, none⟩)) (.pointer pa') (.pointer qu') (.pointer di') (.bool ro') (.bool ef')
    refine ret23 (B := B + 1) (sc := some ⟨sb, 0, none⟩) (au := some ⟨ab', 0, none⟩) (pa := pa') (qu := qu') (di := di') (ro := ro') (ef := ef') rfl rfl f1 ?_
    have HE := HBB.out
    subst HE
    exact ⟨ab', pa', qu', di', ro', ef', aus', pas', qus', ds', rfl, BaseOK.keep HB9.out f2, below7y hbf (Nat.le_succ _) _ _ _ _ _ _ _⟩
end Go.Proofs.Qxb6000768a
