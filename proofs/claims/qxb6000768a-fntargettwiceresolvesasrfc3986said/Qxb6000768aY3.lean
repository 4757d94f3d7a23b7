import Derived.Test.Qxb6000768aY2
set_option linter.unusedSimpArgs false
set_option linter.unusedVariables false
namespace Go.Proofs.Qxb6000768a
open Go.RowKit

/-- RFC 3986, 5.2.2, for a reference with no scheme; the path by RD -/
def resolvePath (b r : PRef) : Bs := if r.ha then RD [] r.path else if r.path = [] then b.path else if r.path.head? = some 47 then RD [] r.path else RD [] (merge b r.path)
def resolve (b r : PRef) : PRef :=
  { scheme := b.scheme
    authority := if r.ha then r.authority else b.authority
    path := resolvePath b r
    query := if r.ha = false ∧ r.path = [] ∧ r.hq = false then b.query else r.query
    fragment := []
    hs := true
    ha := r.ha || b.ha
    hq := if r.ha = false ∧ r.path = [] ∧ r.hq = false then b.hq else r.hq
    hf := false }

def RsI (w : World) (B : Nat) (b r : PRef) (tcs : Array Value) (wx : World) : Prop :=
  Blk wx B (zrCells b.scheme b.authority b.path b.query b.hs b.ha b.hq) 27 ∧ Blk wx (B + 1) (zrCells r.scheme r.authority r.path r.query r.hs r.ha r.hq) 27 ∧ Blk wx (B + 1 + 1) (zrCells [] [] [] [] false false false) 27 ∧ Blk wx (B + 1 + 1 + 1) tcs 27 ∧ Below B w wx
theorem RsI.set {w : World} {B : Nat} {b r : PRef} {tcs : Array Value} {wx : World} (h : RsI w B b r tcs wx) (j : Nat) (v : Value) : RsI w B b r (tcs.setIfInBounds j v) (wx.setCell ⟨B + 1 + 1 + 1, j, none⟩ v) := by
  obtain ⟨k0, k1, k2, k3, k4⟩ := h
  exact ⟨k0.setOther _ (by show B + 1 + 1 + 1 ≠ B; omega) _, k1.setOther _ (by show B + 1 + 1 + 1 ≠ B + 1; omega) _, k2.setOther _ (by show B + 1 + 1 + 1 ≠ B + 1 + 1; omega) _, k3.set j v, k4.setCell (by show B ≤ B + 1 + 1 + 1; omega) _⟩
theorem RsI.below {w : World} {B : Nat} {b r : PRef} {tcs : Array Value} {wx wy : World} (h : RsI w B b r tcs wx) (hb : Below wx.heap.size wx wy) : RsI w B b r tcs wy := by
  obtain ⟨k0, k1, k2, k3, k4⟩ := h
  exact ⟨k0.below hb k0.lt, k1.below hb k1.lt, k2.below hb k2.lt, k3.below hb k3.lt, k4.trans (hb.mono (Nat.le_of_lt k0.lt))⟩

theorem below7y {w wx : World} {B C : Nat} (h : Below B w wx) (hC : B ≤ C) (x0 x1 x2 x3 x4 x5 x6 : Value) :
    Below B w (((((((wx.setCell ⟨C, 0, none⟩ x0).setCell ⟨C, 1, none⟩ x1).setCell ⟨C, 2, none⟩ x2).setCell ⟨C, 3, none⟩ x3).setCell ⟨C, 4, none⟩ x4).setCell ⟨C, 5, none⟩ x5).setCell ⟨C, 6, none⟩ x6) :=
  ((((((h.setCell hC _).setCell hC _).setCell hC _).setCell hC _).setCell hC _).setCell hC _).setCell hC _
theorem ret25 {Q : Ending → World → Prop} {a : Act} {W : World} {B : Nat} {sc au pa qu : Bs} {bs ba bq : Bool} (hd : a.defers = []) (hs : a.tmps[4]?.getD undef = .pointer (some ⟨B, 0, none⟩)) (hW : Blk W B (zrCells sc au pa qu bs ba bq) 27)
    (h : Q (.returned (.agg (zrCells sc au pa qu bs ba bq))) W) : bodyPost Try.prog Try.f25 Q Exit.ret a W := by
  have e0 := hW.cell 0
  have e1 := hW.cell 1
  have e2 := hW.cell 2
  have e3 := hW.cell 3
  have e4 := hW.cell 4
  have e5 := hW.cell 5
  have e6 := hW.cell 6
  simp [zrCells] at e0 e1 e2 e3 e4 e5 e6
  exact bodyPost_ret (v := .agg (zrCells sc au pa qu bs ba bq)) (by simp [results, Try.results25, hs, go_sem, zrCells, e0, e1, e2, e3, e4, e5, e6]) hd h

theorem sz1 (w : World) (o : Obj) : (w.alloc o).heap.size = w.heap.size + 1 := by simp
theorem rs4 (w : World) (c1 c2 c3 c4 : Array Value) : Blk ((((w.alloc (.cells c1 27)).alloc (.cells c2 27)).alloc (.cells c3 27)).alloc (.cells c4 27)) w.heap.size c1 27 ∧ Blk ((((w.alloc (.cells c1 27)).alloc (.cells c2 27)).alloc (.cells c3 27)).alloc (.cells c4 27)) (w.heap.size + 1) c2 27 ∧
    Blk ((((w.alloc (.cells c1 27)).alloc (.cells c2 27)).alloc (.cells c3 27)).alloc (.cells c4 27)) (w.heap.size + 1 + 1) c3 27 ∧ Blk ((((w.alloc (.cells c1 27)).alloc (.cells c2 27)).alloc (.cells c3 27)).alloc (.cells c4 27)) (w.heap.size + 1 + 1 + 1) c4 27 ∧
    Below w.heap.size w ((((w.alloc (.cells c1 27)).alloc (.cells c2 27)).alloc (.cells c3 27)).alloc (.cells c4 27)) := by
  have h1 := Blk.new w c1 27
  have h2 := Blk.new (w.alloc (.cells c1 27)) c2 27
  have h3 := Blk.new ((w.alloc (.cells c1 27)).alloc (.cells c2 27)) c3 27
  have h4 := Blk.new (((w.alloc (.cells c1 27)).alloc (.cells c2 27)).alloc (.cells c3 27)) c4 27
  rw [sz1] at h2
  rw [sz1, sz1] at h3
  rw [sz1, sz1, sz1] at h4
  refine ⟨((h1.alloc _).alloc _).alloc _, (h2.alloc _).alloc _, h3.alloc _, h4, ((((Below.refl _ _).alloc (Nat.le_refl _) _).alloc (by rw [sz1]; omega) _).alloc (by rw [sz1, sz1]; omega) _).alloc (by rw [sz1, sz1, sz1]; omega) _⟩

/-- the end of zzResolve -/
theorem fin25 {Q : Ending → World → Prop} {a : Act} {w wx : World} {B : Nat} {b r : PRef} {sc au pa qu : Bs} {bs ba bq : Bool} (h : RsI w B b r (zrCells sc au pa qu bs ba bq) wx) (hd : a.defers = []) (hs : a.tmps[4]?.getD undef = .pointer (some ⟨B + 1 + 1, 0, none⟩))
    (hQ : ∀ w', Below B w w' → Q (.returned (.agg (zrCells sc au pa qu bs ba bq))) w') :
    bodyPost Try.prog Try.f25 Q Exit.ret a (((((((wx.setCell ⟨B + 1 + 1, 0, none⟩ (.string (S sc))).setCell ⟨B + 1 + 1, 1, none⟩ (.string (S au))).setCell ⟨B + 1 + 1, 2, none⟩ (.string (S pa))).setCell ⟨B + 1 + 1, 3, none⟩ (.string (S qu))).setCell ⟨B + 1 + 1, 4, none⟩ (.bool bs)).setCell ⟨B + 1 + 1, 5, none⟩ (.bool ba)).setCell ⟨B + 1 + 1, 6, none⟩ (.bool bq)) := by
  obtain ⟨k0, k1, k2, k3, k4⟩ := h
  exact ret25 hd hs (fin7z k2 (by rfl) _ _ _ _ _ _ _) (hQ _ (below7y k4 (by omega) _ _ _ _ _ _ _))

set_option maxRecDepth 1000000 in
set_option maxHeartbeats 4000000 in
theorem zzResolve_any (b r : PRef) (hb : b.path.length ≤ 4000000) (hr : r.path.length ≤ 4000000) (w : World) :
    Calls Try.prog 25 #[.agg (zrCells b.scheme b.authority b.path b.query b.hs b.ha b.hq), .agg (zrCells r.scheme r.authority r.path r.query r.hs r.ha r.hq)] w fun e w' =>
      e = .returned (.agg (zrCells (resolve b r).scheme (resolve b r).authority (resolve b r).path (resolve b r).query true (resolve b r).ha (resolve b r).hq)) ∧ Below w.heap.size w w' := by
  have hdots : ∀ w, Calls Try.prog 12 #[.string (S r.path)] w fun e w' => e = .returned (.string (S (RD [] r.path))) ∧ Below w.heap.size w w' := fun w => zzRemoveDots_any (S r.path) w (by rw [S_size]; omega)
  have hmer := fun w => zzMerge_any b r.path (by omega) (by omega) w
  have hml := merge_len b r.path
  have hdotm : ∀ w, Calls Try.prog 12 #[.string (S (merge b r.path))] w fun e w' => e = .returned (.string (S (RD [] (merge b r.path)))) ∧ Below w.heap.size w w' := fun w => zzRemoveDots_any (S (merge b r.path)) w (by rw [S_size]; omega)
  have hpt := toList_nil r.path
  have hpt2 : (S r.path).toList.isEmpty = r.path.isEmpty := by rw [ByteArray.toList_eq, S_data]
  unfold zrCells at hmer ⊢
  go_enter Try.func25, Try.ntmps25
  go_upto_region 2 with fail
  obtain ⟨k0, k1, k2, k3, k4⟩ := rs4 w #[.string (S b.scheme), .string (S b.authority), .string (S b.path), .string (S b.query), .bool b.hs, .bool b.ha, .bool b.hq] #[.string (S r.scheme), .string (S r.authority), .string (S r.path), .string (S r.query), .bool r.hs, .bool r.ha, .bool r.hq] #[.string ⟨#[]⟩, .string ⟨#[]⟩, .string ⟨#[]⟩, .string ⟨#[]⟩, .bool false, .bool false, .bool false] #[.string ⟨#[]⟩, .string ⟨#[]⟩, .string ⟨#[]⟩, .string ⟨#[]⟩, .bool false, .bool false, .bool false]
  have hI : RsI w w.heap.size b r (zrCells [] [] [] [] false false false) _ := ⟨k0, k1, k2, k3, k4⟩
  clear k0 k1 k2 k3 k4
  generalize (((w.alloc (.cells #[.string (S b.scheme), .string (S b.authority), .string (S b.path), .string (S b.query), .bool b.hs, .bool b.ha, .bool b.hq] 27)).alloc (.cells #[.string (S r.scheme), .string (S r.authority), .string (S r.path), .string (S r.query), .bool r.hs, .bool r.ha, .bool r.hq] 27)).alloc (.cells #[.string ⟨#[]⟩, .string ⟨#[]⟩, .string ⟨#[]⟩, .string ⟨#[]⟩, .bool false, .bool false, .bool false] 27)).alloc (.cells #[.string ⟨#[]⟩, .string ⟨#[]⟩, .string ⟨#[]⟩, .string ⟨#[]⟩, .bool false, .bool false, .bool false] 27) = w1 at *
  generalize hB : w.heap.size = B at *
  have HBB : Hid (w.heap.size = B) := hB
  clear hB
  have hag : Hid (Value.agg #[.string (S b.scheme), .string (S b.authority), .string (S b.path), .string (S b.query), .bool b.hs, .bool b.ha, .bool b.hq] = Value.agg (zrCells b.scheme b.authority b.path b.query b.hs b.ha b.hq)) := rfl
  generalize hg0 : Value.agg #[.string (S b.scheme), .string (S b.authority), .string (S b.path), .string (S b.query), .bool b.hs, .bool b.ha, .bool b.hq] = ag0 at *
  generalize Value.agg #[.string (S r.scheme), .string (S r.authority), .string (S r.path), .string (S r.query), .bool r.hs, .bool r.ha, .bool r.hq] = ag1 at *
  have HG0 : Hid (Value.agg #[.string (S b.scheme), .string (S b.authority), .string (S b.path), .string (S b.query), .bool b.hs, .bool b.ha, .bool b.hq] = ag0) := hg0
  clear hg0
  obtain ⟨b0, b1, b2, b3, b4, b5, b6, b7⟩ := zrAll hI.1
  obtain ⟨t0, t1, t2, t3, t4, t5, t6, t7⟩ := zrAll hI.2.2.2.1
  go_upto_region 4 with fail
  have hI2 : RsI w B b r (zrCells b.scheme [] [] [] true false false) _ := (hI.set 0 (.string (S b.scheme))).set 4 (.bool true)
  clear hI b0 b1 b2 b3 b4 b5 b6 b7 t0 t1 t2 t3 t4 t5 t6 t7
  generalize (w1.setCell ⟨B + 1 + 1 + 1, 0, none⟩ (.string (S b.scheme))).setCell ⟨B + 1 + 1 + 1, 4, none⟩ (.bool true) = w2 at *
  obtain ⟨b0, b1, b2, b3, b4, b5, b6, b7⟩ := zrAll hI2.1
  obtain ⟨r0, r1, r2, r3, r4, r5, r6, r7⟩ := zrAll hI2.2.1
  obtain ⟨t0, t1, t2, t3, t4, t5, t6, t7⟩ := zrAll hI2.2.2.2.1
  cases hha : r.ha with
  | true =>
    rw [hha] at r5
    have HR : Hid (resolve b r = { scheme := b.scheme, authority := r.authority, path := RD [] r.path, query := r.query, fragment := [], hs := true, ha := true, hq := r.hq, hf := false }) := by
      show _ = _; unfold resolve resolvePath; simp [hha]
    go_upto_region 7 with fail
    have hI3 : RsI w B b r (zrCells b.scheme r.authority [] [] true true false) _ := (hI2.set 1 (.string (S r.authority))).set 5 (.bool true)
    clear hI2 b0 b1 b2 b3 b4 b5 b6 b7 t0 t1 t2 t3 t4 t5 t6 t7 r0 r1 r2 r3 r4 r5 r6 r7
    generalize (w2.setCell ⟨B + 1 + 1 + 1, 1, none⟩ (.string (S r.authority))).setCell ⟨B + 1 + 1 + 1, 5, none⟩ (.bool true) = w3 at *
    obtain ⟨r0, r1, r2, r3, r4, r5, r6, r7⟩ := zrAll hI3.2.1
    go_upto_region 8 with (first | (go_at_call 12; refine (hdots _).mono ?_; rintro e w5 ⟨rfl, hb5⟩; have hI5 := hI3.below hb5; obtain ⟨t0, t1, t2, t3, t4, t5, t6, t7⟩ := zrAll hI5.2.2.2.1))
    have hI6 : RsI w B b r (zrCells b.scheme r.authority (RD [] r.path) [] true true false) _ := hI5.set 2 (.string (S (RD [] r.path)))
    clear hI3 hI5 hb5 t0 t1 t2 t3 t4 t5 t6 t7 r0 r1 r2 r3 r4 r5 r6 r7
    generalize w5.setCell ⟨B + 1 + 1 + 1, 2, none⟩ (.string (S (RD [] r.path))) = w7 at *
    obtain ⟨r0, r1, r2, r3, r4, r5, r6, r7⟩ := zrAll hI6.2.1
    obtain ⟨t0, t1, t2, t3, t4, t5, t6, t7⟩ := zrAll hI6.2.2.2.1
    obtain ⟨z0, z1, z2, z3, z4, z5, z6, z7⟩ := zrAll hI6.2.2.1
    go_wp2
    have hI8 : RsI w B b r (zrCells b.scheme r.authority (RD [] r.path) r.query true true r.hq) _ := (hI6.set 3 (.string (S r.query))).set 6 (.bool r.hq)
    refine fin25 hI8 rfl rfl ?_
    intro w' hw'
    exact ⟨by rw [HR.out]; rfl, by rw [HBB.out]; exact hw'⟩
  | false =>
    rw [hha] at r5
    go_upto_region 13 with fail
    have hI3 : RsI w B b r (zrCells b.scheme b.authority [] [] true b.ha false) _ := (hI2.set 1 (.string (S b.authority))).set 5 (.bool b.ha)
    clear hI2 b0 b1 b2 b3 b4 b5 b6 b7 t0 t1 t2 t3 t4 t5 t6 t7 r0 r1 r2 r3 r4 r5 r6 r7
    generalize (w2.setCell ⟨B + 1 + 1 + 1, 1, none⟩ (.string (S b.authority))).setCell ⟨B + 1 + 1 + 1, 5, none⟩ (.bool b.ha) = w3 at *
    obtain ⟨b0, b1, b2, b3, b4, b5, b6, b7⟩ := zrAll hI3.1
    obtain ⟨r0, r1, r2, r3, r4, r5, r6, r7⟩ := zrAll hI3.2.1
    obtain ⟨t0, t1, t2, t3, t4, t5, t6, t7⟩ := zrAll hI3.2.2.2.1
    obtain ⟨z0, z1, z2, z3, z4, z5, z6, z7⟩ := zrAll hI3.2.2.1
    by_cases hp : r.path = []
    · have hpe : r.path.isEmpty = true := by rw [hp]; rfl
      rw [hpe] at hpt hpt2
      cases hhq : r.hq with
      | true =>
        have HR : Hid (resolve b r = { scheme := b.scheme, authority := b.authority, path := b.path, query := r.query, fragment := [], hs := true, ha := b.ha, hq := true, hf := false }) := by
          show _ = _; unfold resolve resolvePath; simp [hha, hp, hhq]
        rw [hhq] at r6
        clear hp hpe
        go_wp2
        have hI8 : RsI w B b r (zrCells b.scheme b.authority b.path r.query true b.ha true) _ := ((hI3.set 2 (.string (S b.path))).set 3 (.string (S r.query))).set 6 (.bool true)
        refine fin25 hI8 rfl rfl ?_
        intro w' hw'
        exact ⟨by rw [HR.out]; rfl, by rw [HBB.out]; exact hw'⟩
      | false =>
        have HR : Hid (resolve b r = { scheme := b.scheme, authority := b.authority, path := b.path, query := b.query, fragment := [], hs := true, ha := b.ha, hq := b.hq, hf := false }) := by
          show _ = _; unfold resolve resolvePath; simp [hha, hp, hhq]
        rw [hhq] at r6
        clear hp hpe
        go_wp2
        have hI8 : RsI w B b r (zrCells b.scheme b.authority b.path b.query true b.ha b.hq) _ := ((hI3.set 2 (.string (S b.path))).set 3 (.string (S b.query))).set 6 (.bool b.hq)
        refine fin25 hI8 rfl rfl ?_
        intro w' hw'
        exact ⟨by rw [HR.out]; rfl, by rw [HBB.out]; exact hw'⟩
    · have hpe : r.path.isEmpty = false := by simpa using hp
      rw [hpe] at hpt hpt2
      have hsz : 0 < (S r.path).size := by rw [S_size]; exact List.length_pos_iff.2 hp
      have hsz' : (0 : Int) < ((S r.path).size : Int) := by omega
      have hg := lget (S r.path) 0 hsz
      rw [S_data, ← List.head?_eq_getElem?] at hg
      by_cases h47 : (S r.path)[0] = 47
      · have n1 := beq47_yes h47
        have HR : Hid (resolve b r = { scheme := b.scheme, authority := b.authority, path := RD [] r.path, query := r.query, fragment := [], hs := true, ha := b.ha, hq := r.hq, hf := false }) := by
          show _ = _; unfold resolve resolvePath; rw [hg, h47]; simp [hha, hp]
        clear hp hpe hg h47
        go_upto_region 24 with (first | (go_at_call 12; refine (hdots _).mono ?_; rintro e w5 ⟨rfl, hb5⟩; have hI5 := hI3.below hb5; obtain ⟨x0, x1, x2, x3, x4, x5, x6, x7⟩ := zrAll hI5.2.2.2.1))
        have hI6 : RsI w B b r (zrCells b.scheme b.authority (RD [] r.path) [] true b.ha false) _ := hI5.set 2 (.string (S (RD [] r.path)))
        clear hI3 hI5 hb5 t0 t1 t2 t3 t4 t5 t6 t7 r0 r1 r2 r3 r4 r5 r6 r7 b0 b1 b2 b3 b4 b5 b6 b7 z0 z1 z2 z3 z4 z5 z6 z7 x0 x1 x2 x3 x4 x5 x6 x7
        generalize w5.setCell ⟨B + 1 + 1 + 1, 2, none⟩ (.string (S (RD [] r.path))) = w7 at *
        obtain ⟨r0, r1, r2, r3, r4, r5, r6, r7⟩ := zrAll hI6.2.1
        obtain ⟨t0, t1, t2, t3, t4, t5, t6, t7⟩ := zrAll hI6.2.2.2.1
        obtain ⟨z0, z1, z2, z3, z4, z5, z6, z7⟩ := zrAll hI6.2.2.1
        go_wp2
        have hI8 : RsI w B b r (zrCells b.scheme b.authority (RD [] r.path) r.query true b.ha r.hq) _ := (hI6.set 3 (.string (S r.query))).set 6 (.bool r.hq)
        refine fin25 hI8 rfl rfl ?_
        intro w' hw'
        exact ⟨by rw [HR.out]; rfl, by rw [HBB.out]; exact hw'⟩
      · have n1 := beq47_no h47
        have HR : Hid (resolve b r = { scheme := b.scheme, authority := b.authority, path := RD [] (merge b r.path), query := r.query, fragment := [], hs := true, ha := b.ha, hq := r.hq, hf := false }) := by
          show _ = _; unfold resolve resolvePath; rw [hg]; simp [hha, hp, h47]
        rw [← HG0.out] at hmer
        clear hp hpe hg h47
        go_upto_region 24 with (first | (go_at_call 37; refine (hmer _).mono ?_; rintro e w4 ⟨rfl, hb4⟩; have hI4 := hI3.below hb4) | (go_at_call 12; refine (hdotm _).mono ?_; rintro e w5 ⟨rfl, hb5⟩; have hI5 := hI4.below hb5; obtain ⟨x0, x1, x2, x3, x4, x5, x6, x7⟩ := zrAll hI5.2.2.2.1))
        have hI6 : RsI w B b r (zrCells b.scheme b.authority (RD [] (merge b r.path)) [] true b.ha false) _ := hI5.set 2 (.string (S (RD [] (merge b r.path))))
        clear hI3 hI4 hI5 hb4 hb5 t0 t1 t2 t3 t4 t5 t6 t7 r0 r1 r2 r3 r4 r5 r6 r7 b0 b1 b2 b3 b4 b5 b6 b7 z0 z1 z2 z3 z4 z5 z6 z7 x0 x1 x2 x3 x4 x5 x6 x7
        generalize w5.setCell ⟨B + 1 + 1 + 1, 2, none⟩ (.string (S (RD [] (merge b r.path)))) = w7 at *
        obtain ⟨r0, r1, r2, r3, r4, r5, r6, r7⟩ := zrAll hI6.2.1
        obtain ⟨t0, t1, t2, t3, t4, t5, t6, t7⟩ := zrAll hI6.2.2.2.1
        obtain ⟨z0, z1, z2, z3, z4, z5, z6, z7⟩ := zrAll hI6.2.2.1
        go_wp2
        have hI8 : RsI w B b r (zrCells b.scheme b.authority (RD [] (merge b r.path)) r.query true b.ha r.hq) _ := (hI6.set 3 (.string (S r.query))).set 6 (.bool r.hq)
        refine fin25 hI8 rfl rfl ?_
        intro w' hw'
        exact ⟨by rw [HR.out]; rfl, by rw [HBB.out]; exact hw'⟩
end Go.Proofs.Qxb6000768a
