import Derived.Test.Qxb6000768aX9
import Derived.Test.Qxb6000768aY3
set_option linter.unusedSimpArgs false
set_option linter.unusedVariables false
namespace Go.Proofs.Qxb6000768a
open Go.RowKit

def rootOf (x : Bool) : List ByteArray → Bool
  | [] => x
  | t :: _ => decide (t.data.toList.head? = some 47)

theorem tgtOK {M : Nat} {w : World} {b r : PRef} {sb ab : Nat} {pa qu di : Option Addr} {ro : Bool} {scs aus qus ps : List ByteArray} (hsc : Chain w (some ⟨sb, 0, none⟩) scs) (hscf : flat scs = b.scheme ++ [58])
    (hau : Chain w (some ⟨ab, 0, none⟩) aus) (hauf : flat aus = flat scs ++ (if (resolve b r).ha then [47, 47] ++ (resolve b r).authority else [])) (hne : (resolve b r).ha = !decide (ab = sb))
    (hpa : Above w pa ps (some ⟨ab, 0, none⟩) aus) (hdi : Above w di ps.tail (some ⟨ab, 0, none⟩) aus) (hg : Good ps) (hf : flat ps = (resolve b r).path)
    (hro : ro = rootOf (!decide (ab = sb)) ps)
    (hqu : Chain w qu qus) (hquf : flat qus = flat (ps ++ aus) ++ (if (resolve b r).hq then 63 :: (resolve b r).query else [])) (hlen : (flat qus).length ≤ M) :
    BaseOK M w (resolve b r) sb ab pa qu di ro scs aus (ps ++ aus) qus ps.tail := by
  have hl2 : (flat (ps ++ aus)).length ≤ (flat qus).length := by rw [hquf, List.length_append]; omega
  refine { sc := hsc, scf := hscf, au := hau, auf := hauf, ne := ?_, eq := ?_, pa := hpa.chain, paf := by rw [flat_app, hf], qu := hqu, quf := hquf, di := hdi, good := hg.tail, mer := ?_, roo := ?_, len := hlen, dlen := Nat.le_trans (flat_tail ps aus) (Nat.le_trans hl2 hlen) }
  · intro h; rw [h] at hne; simpa using hne.symm
  · intro h; rw [h] at hne; simpa using hne.symm
  · intro rp
    refine mergeTarget (resolve b r) ps hg hf.symm ro ?_ rp
    rw [hro, hne]
    cases ps <;> rfl
  · cases ps with
    | nil => exact .inl rfl
    | cons t ts =>
      rcases hg.2.1 with h | h
      · right; rw [hro]; simp [rootOf, h]
      · left; exact h

def TgI (w : World) (B : Nat) (bc : Array Value) (r : PRef) (tcs : Array Value) (wx : World) : Prop :=
  Blk wx B bc 33 ∧ Blk wx (B + 1) (refCells r.scheme r.authority r.path r.query r.fragment r.hs r.ha r.hq r.hf) 48 ∧ Blk wx (B + 1 + 1) (baseCells none none none none none false false) 33 ∧ Blk wx (B + 1 + 1 + 1) tcs 33 ∧ Below B w wx
theorem TgI.set {w : World} {B : Nat} {bc : Array Value} {r : PRef} {tcs : Array Value} {wx : World} (h : TgI w B bc r tcs wx) (j : Nat) (v : Value) : TgI w B bc r (tcs.setIfInBounds j v) (wx.setCell ⟨B + 1 + 1 + 1, j, none⟩ v) ∧ Kp wx (wx.setCell ⟨B + 1 + 1 + 1, j, none⟩ v) := by
  obtain ⟨k0, k1, k2, k3, k4⟩ := h
  exact ⟨⟨k0.setOther _ (by show B + 1 + 1 + 1 ≠ B; omega) _, k1.setOther _ (by show B + 1 + 1 + 1 ≠ B + 1; omega) _, k2.setOther _ (by show B + 1 + 1 + 1 ≠ B + 1 + 1; omega) _, k3.set j v, k4.setCell (by show B ≤ B + 1 + 1 + 1; omega) _⟩, (Kp.refl wx).set k3 (by decide) j v⟩
theorem TgI.below {w : World} {B : Nat} {bc : Array Value} {r : PRef} {tcs : Array Value} {wx wy : World} (h : TgI w B bc r tcs wx) (hb : Below wx.heap.size wx wy) : TgI w B bc r tcs wy := by
  obtain ⟨k0, k1, k2, k3, k4⟩ := h
  exact ⟨k0.below hb k0.lt, k1.below hb k1.lt, k2.below hb k2.lt, k3.below hb k3.lt, k4.trans (hb.mono (Nat.le_of_lt k0.lt))⟩
theorem TgI.read {w : World} {B : Nat} {bc : Array Value} {r : PRef} {tcs tcs' : Array Value} {wx wy : World} (h : TgI w B bc r tcs wx) (hb : Below (B + 1 + 1 + 1) wx wy) (hk : Blk wy (B + 1 + 1 + 1) tcs' 33) : TgI w B bc r tcs' wy := by
  obtain ⟨k0, k1, k2, k3, k4⟩ := h
  exact ⟨k0.below hb (by omega), k1.below hb (by omega), k2.below hb (by omega), hk, k4.trans (hb.mono (by omega))⟩
theorem tg4 (w : World) (c1 c2 c3 c4 : Array Value) : Blk ((((w.alloc (.cells c1 33)).alloc (.cells c2 48)).alloc (.cells c3 33)).alloc (.cells c4 33)) w.heap.size c1 33 ∧ Blk ((((w.alloc (.cells c1 33)).alloc (.cells c2 48)).alloc (.cells c3 33)).alloc (.cells c4 33)) (w.heap.size + 1) c2 48 ∧
    Blk ((((w.alloc (.cells c1 33)).alloc (.cells c2 48)).alloc (.cells c3 33)).alloc (.cells c4 33)) (w.heap.size + 1 + 1) c3 33 ∧ Blk ((((w.alloc (.cells c1 33)).alloc (.cells c2 48)).alloc (.cells c3 33)).alloc (.cells c4 33)) (w.heap.size + 1 + 1 + 1) c4 33 ∧
    Below w.heap.size w ((((w.alloc (.cells c1 33)).alloc (.cells c2 48)).alloc (.cells c3 33)).alloc (.cells c4 33)) := by
  have h1 := Blk.new w c1 33
  have h2 := Blk.new (w.alloc (.cells c1 33)) c2 48
  have h3 := Blk.new ((w.alloc (.cells c1 33)).alloc (.cells c2 48)) c3 33
  have h4 := Blk.new (((w.alloc (.cells c1 33)).alloc (.cells c2 48)).alloc (.cells c3 33)) c4 33
  rw [sz1] at h2
  rw [sz1, sz1] at h3
  rw [sz1, sz1, sz1] at h4
  refine ⟨((h1.alloc _).alloc _).alloc _, (h2.alloc _).alloc _, h3.alloc _, h4, ((((Below.refl _ _).alloc (Nat.le_refl _) _).alloc (by rw [sz1]; omega) _).alloc (by rw [sz1, sz1]; omega) _).alloc (by rw [sz1, sz1, sz1]; omega) _⟩

theorem ret36 {Q : Ending → World → Prop} {a : Act} {W : World} {B : Nat} {sc au pa qu di : Option Addr} {ro ef : Bool} (hd : a.defers = []) (hs : a.tmps[4]?.getD undef = .pointer (some ⟨B, 0, none⟩)) (hW : Blk W B (baseCells sc au pa qu di ro ef) 33)
    (h : Q (.returned (.agg (baseCells sc au pa qu di ro ef))) W) : bodyPost Try.prog Try.f36 Q Exit.ret a W := by
  have e0 := hW.cell 0
  have e1 := hW.cell 1
  have e2 := hW.cell 2
  have e3 := hW.cell 3
  have e4 := hW.cell 4
  have e5 := hW.cell 5
  have e6 := hW.cell 6
  simp [baseCells] at e0 e1 e2 e3 e4 e5 e6
  exact bodyPost_ret (v := .agg (baseCells sc au pa qu di ro ef)) (by simp [results, Try.results36, hs, go_sem, baseCells, e0, e1, e2, e3, e4, e5, e6]) hd h
theorem fin36 {Q : Ending → World → Prop} {a : Act} {w wx : World} {B : Nat} {bc : Array Value} {r : PRef} {sc au pa qu di : Option Addr} {ro ef : Bool} (h : TgI w B bc r (baseCells sc au pa qu di ro ef) wx) (hd : a.defers = []) (hs : a.tmps[4]?.getD undef = .pointer (some ⟨B + 1 + 1, 0, none⟩))
    (hQ : ∀ w', Below B w w' → Kp wx w' → Q (.returned (.agg (baseCells sc au pa qu di ro ef))) w') :
    bodyPost Try.prog Try.f36 Q Exit.ret a (((((((wx.setCell ⟨B + 1 + 1, 0, none⟩ (.pointer sc)).setCell ⟨B + 1 + 1, 1, none⟩ (.pointer au)).setCell ⟨B + 1 + 1, 2, none⟩ (.pointer pa)).setCell ⟨B + 1 + 1, 3, none⟩ (.pointer qu)).setCell ⟨B + 1 + 1, 4, none⟩ (.pointer di)).setCell ⟨B + 1 + 1, 5, none⟩ (.bool ro)).setCell ⟨B + 1 + 1, 6, none⟩ (.bool ef)) := by
  obtain ⟨k0, k1, k2, k3, k4⟩ := h
  obtain ⟨f1, f2⟩ := fin7 k2 (by rfl) (.pointer sc) (.pointer au) (.pointer pa) (.pointer qu) (.pointer di) (.bool ro) (.bool ef)
  exact ret36 hd hs f1 (hQ _ (below7y k4 (by omega) _ _ _ _ _ _ _) f2)
theorem hpre47 (l : Bs) : Lib.hasPrefix l [47] = decide (l.head? = some 47) := by
  show List.isPrefixOf [47] l = _
  cases l with
  | nil => rfl
  | cons c t =>
    simp [List.isPrefixOf]
    rw [Bool.eq_iff_iff]; simp
    exact ⟨fun h => h.symm, fun h => h.symm⟩

/-- an empty path: the base's own path stays -/
theorem tgtSame {M M' : Nat} {w w' : World} {b r : PRef} {sb ab : Nat} {pa qu qu' di : Option Addr} {ro : Bool} {scs aus pas qus qus' ds : List ByteArray} (h : BaseOK M w b sb ab pa qu di ro scs aus pas qus ds) (hk : Kp w w') (ha : r.ha = false) (hp : r.path = [])
    (hqu : Chain w' qu' qus') (hquf : flat qus' = flat pas ++ (if (resolve b r).hq then 63 :: (resolve b r).query else [])) (hlen : (flat qus').length ≤ M') (hM : M ≤ M') :
    BaseOK M' w' (resolve b r) sb ab pa qu' di ro scs aus pas qus' ds := by
  have e1 : (resolve b r).ha = b.ha := by unfold resolve; simp [ha]
  have e2 : (resolve b r).path = b.path := by unfold resolve resolvePath; simp [ha, hp]
  have e3 : (resolve b r).authority = b.authority := by unfold resolve; simp [ha]
  refine { sc := hk.chain h.sc, scf := h.scf, au := hk.chain h.au, auf := by rw [e1, e3]; exact h.auf, ne := by rw [e1]; exact h.ne, eq := by rw [e1]; exact h.eq, pa := hk.chain h.pa, paf := by rw [e2]; exact h.paf, qu := hqu, quf := hquf, di := hk.above h.di, good := h.good, mer := ?_, roo := h.roo, len := hlen, dlen := Nat.le_trans h.dlen hM }
  intro rp
  have : merge (resolve b r) rp = merge b rp := by unfold merge; rw [e1, e2]
  rw [this]; exact h.mer rp

set_option maxRecDepth 1000000 in
set_option maxHeartbeats 8000000 in
theorem tgt_any {M : Nat} {w : World} {b : PRef} (r : PRef) {sb ab : Nat} {pa qu di : Option Addr} {ro : Bool} (ef : Bool) {scs aus pas qus ds : List ByteArray} (ok : BaseOK M w b sb ab pa qu di ro scs aus pas qus ds)
    (hM : M + (r.authority.length + r.path.length + r.query.length) ≤ 9000000) :
    Calls Try.prog 36 #[.agg (baseCells (some ⟨sb, 0, none⟩) (some ⟨ab, 0, none⟩) pa qu di ro ef), .agg (refCells r.scheme r.authority r.path r.query r.fragment r.hs r.ha r.hq r.hf)] w fun e w' =>
      ∃ ab' pa' qu' di' ro' ef' aus' pas' qus' ds', e = .returned (.agg (baseCells (some ⟨sb, 0, none⟩) (some ⟨ab', 0, none⟩) pa' qu' di' ro' ef')) ∧
        BaseOK (M + (r.authority.length + r.path.length + r.query.length) + 10) w' (resolve b r) sb ab' pa' qu' di' ro' scs aus' pas' qus' ds' ∧ Below w.heap.size w w' := by
  have z1 : (S r.authority).size ≤ 9000000 := by rw [S_size]; omega
  have z2 : (S r.path).size ≤ 9000000 := by rw [S_size]; omega
  have z3 : (S r.query).size ≤ 9000000 := by rw [S_size]; omega
  have zx : (⟨#[47, 47]⟩ ++ S r.authority).size ≤ 9000002 := by rw [app_size]; show 2 + _ ≤ _; omega
  have zy : (⟨#[63]⟩ ++ S r.query).size ≤ 9000001 := by rw [app_size]; show 1 + _ ≤ _; omega
  have hscl : (flat scs).length ≤ M ∧ (flat aus).length ≤ M ∧ (flat pas).length ≤ M ∧ (flat ds).length + (flat aus).length ≤ M := by
    have h1 := ok.len
    have h2 := ok.dlen
    have q3 : (flat qus).length = (flat pas).length + (if b.hq then 63 :: b.query else []).length := by rw [ok.quf, List.length_append]
    have q2 : (flat pas).length = (flat aus).length + b.path.length := by rw [ok.paf, List.length_append]
    have q1 : (flat aus).length = (flat scs).length + (if b.ha then [47, 47] ++ b.authority else []).length := by rw [ok.auf, List.length_append]
    rw [flat_app, List.length_append] at h2
    omega
  obtain ⟨l0, l1, l2, l4⟩ := hscl
  have HOK : Hid (BaseOK M w b sb ab pa qu di ro scs aus pas qus ds) := ok
  have hsc := ok.sc
  have hau := ok.au
  have hpa := ok.pa
  have hqu := ok.qu
  have hdi := ok.di
  clear ok
  obtain ⟨k0, k1, k2, k3, k4⟩ := tg4 w #[.pointer (some ⟨sb, 0, none⟩), .pointer (some ⟨ab, 0, none⟩), .pointer pa, .pointer qu, .pointer di, .bool ro, .bool ef] #[.string (S r.scheme), .string (S r.authority), .string (S r.path), .string (S r.query), .string (S r.fragment), .bool r.hs, .bool r.ha, .bool r.hq, .bool r.hf] #[.pointer none, .pointer none, .pointer none, .pointer none, .pointer none, .bool false, .bool false] #[.pointer (some ⟨sb, 0, none⟩), .pointer (some ⟨ab, 0, none⟩), .pointer pa, .pointer qu, .pointer di, .bool ro, .bool ef]
  have hI : TgI w w.heap.size (baseCells (some ⟨sb, 0, none⟩) (some ⟨ab, 0, none⟩) pa qu di ro ef) r (baseCells (some ⟨sb, 0, none⟩) (some ⟨ab, 0, none⟩) pa qu di ro ef) _ := ⟨k0, k1, k2, k3, k4⟩
  have kn := Kp.below k4
  clear k0 k1 k2 k3 k4
  unfold baseCells refCells
  go_enter Try.func36, Try.ntmps36
  go_upto_region 6 with fail
  generalize (((w.alloc (.cells #[.pointer (some ⟨sb, 0, none⟩), .pointer (some ⟨ab, 0, none⟩), .pointer pa, .pointer qu, .pointer di, .bool ro, .bool ef] 33)).alloc (.cells #[.string (S r.scheme), .string (S r.authority), .string (S r.path), .string (S r.query), .string (S r.fragment), .bool r.hs, .bool r.ha, .bool r.hq, .bool r.hf] 48)).alloc (.cells #[.pointer none, .pointer none, .pointer none, .pointer none, .pointer none, .bool false, .bool false] 33)).alloc (.cells #[.pointer (some ⟨sb, 0, none⟩), .pointer (some ⟨ab, 0, none⟩), .pointer pa, .pointer qu, .pointer di, .bool ro, .bool ef] 33) = w1 at *
  generalize hB : w.heap.size = B at *
  have HBB : Hid (w.heap.size = B) := hB
  clear hB
  generalize Value.agg #[.pointer (some ⟨sb, 0, none⟩), .pointer (some ⟨ab, 0, none⟩), .pointer pa, .pointer qu, .pointer di, .bool ro, .bool ef] = ag0 at *
  generalize Value.agg #[.string (S r.scheme), .string (S r.authority), .string (S r.path), .string (S r.query), .string (S r.fragment), .bool r.hs, .bool r.ha, .bool r.hq, .bool r.hf] = ag1 at *
  replace hsc := kn.chain hsc
  replace hau := kn.chain hau
  replace hpa := kn.chain hpa
  replace hqu := kn.chain hqu
  replace hdi := kn.above hdi
  clear kn
  obtain ⟨r0, r1, r2, r3, r4, r5, r6, r7, r8⟩ := refAll hI.2.1
  obtain ⟨b0, b1, b2, b3, b4, b5, b6, b7⟩ := baseAll hI.1
  obtain ⟨t0, t1, t2, t3, t4, t5, t6, t7⟩ := baseAll hI.2.2.2.1
  cases hha : r.ha with
  | true =>
    rw [hha] at r6
    have hex := fun w h => extend_ch (some ⟨sb, 0, none⟩) scs (⟨#[47, 47]⟩ ++ S r.authority) w h (by omega) (by omega)
    go_upto_region 8 with (first | (go_at_call 28; refine (hex _ hsc).mono ?_; rintro e w2 ⟨rfl, hch, hb2, hz2⟩; have hI2 := hI.below hb2; obtain ⟨x0, x1, x2, x3, x4, x5, x6, x7⟩ := baseAll hI2.2.2.2.1))
    obtain ⟨hI3, kn3⟩ := hI2.set 1 (.pointer (some ⟨w1.heap.size, 0, none⟩))
    have kn2 := (Kp.below hb2).trans kn3
    have hau3 := kn3.chain hch
    have hsb : sb < w1.heap.size := hsc.lt
    replace hsc := kn2.chain hsc
    clear hau hpa hqu hdi hI hI2 kn3 hch hb2 hz2 kn2 hex r0 r1 r2 r3 r4 r5 r6 r7 r8 b0 b1 b2 b3 b4 b5 b6 b7 t0 t1 t2 t3 t4 t5 t6 t7 x0 x1 x2 x3 x4 x5 x6 x7
    obtain ⟨a1, ha1⟩ : ∃ a1, a1 = w1.heap.size := ⟨_, rfl⟩
    rw [← ha1] at hau3 hI3 hsb hsc
    rw [← ha1]
    clear ha1
    generalize w2.setCell ⟨B + 1 + 1 + 1, 1, none⟩ (.pointer (some ⟨a1, 0, none⟩)) = w3 at *
    obtain ⟨r0, r1, r2, r3, r4, r5, r6, r7, r8⟩ := refAll hI3.2.1
    obtain ⟨t0, t1, t2, t3, t4, t5, t6, t7⟩ := baseAll (show Blk w3 (B + 1 + 1 + 1) (baseCells (some ⟨sb, 0, none⟩) (some ⟨a1, 0, none⟩) pa qu di ro ef) 33 from hI3.2.2.2.1)
    have haf : flat ((⟨#[47, 47]⟩ ++ S r.authority) :: scs) = flat scs ++ ([47, 47] ++ r.authority) := by simp [flat, S]
    have hal : (flat ((⟨#[47, 47]⟩ ++ S r.authority) :: scs)).length = (flat scs).length + (2 + r.authority.length) := by rw [haf]; simp; omega
    generalize hA1 : (⟨#[47, 47]⟩ ++ S r.authority) :: scs = aus1 at *
    clear hA1
    have HA : Hid (flat aus1 = flat scs ++ (if (resolve b r).ha then [47, 47] ++ (resolve b r).authority else [])) := by
      show _ = _; rw [haf]; unfold resolve; simp [hha]
    have HNE : Hid ((resolve b r).ha = !decide (a1 = sb)) := by
      show _ = _
      have : a1 ≠ sb := by omega
      unfold resolve; simp [hha, this]
    have HQ : Hid ((resolve b r).hq = r.hq ∧ (resolve b r).query = r.query) := by
      show _ ∧ _; unfold resolve; simp [hha]
    have HP : Hid (RD (flat []) (S r.path).data.toList = (resolve b r).path) := by
      show _ = _; rw [S_data]; unfold resolve resolvePath; simp [hha, flat]
    have HPL : Hid (∀ ps : List ByteArray, flat ps = RD (flat []) (S r.path).data.toList → (flat aus1).length + (flat ps).length ≤ M + (r.authority.length + r.path.length) + 4) := by
      intro ps h
      rw [h, hal]
      have := RD_len (flat []) (S r.path).data.toList
      rw [S_data] at this ⊢
      simp only [flat, List.length_nil] at this ⊢
      omega
    have hrp := readPath_any (B + 1 + 1 + 1) sb a1 pa qu di ro ef false (some ⟨a1, 0, none⟩) scs aus1 [] (S r.path) w3 hI3.2.2.2.1 hsc hau3 ⟨rfl, hau3⟩ trivial (.inl rfl) (by rw [List.nil_append, hal, S_size]; omega)
    clear haf hal
    go_upto_region 15 with (first | (go_at_call 47; refine hrp.mono ?_; rintro e w4 ⟨rfl, pa5, di5, ro5, ef5, ps5, hb4, hpa4, hdi4, hg4, hf4, hro4, kn4, hbe4⟩))
    have hI4 := hI3.read hbe4 hb4
    have hau := kn4.chain hau3
    replace hsc := kn4.chain hsc
    clear hI3 hrp hau3 kn4 hbe4 hb4 r0 r1 r2 r3 r4 r5 r6 r7 r8 t0 t1 t2 t3 t4 t5 t6 t7
    have hro5 : ro5 = rootOf (!decide (a1 = sb)) ps5 := by rw [hro4]; cases ps5 <;> rfl
    have HRO : Hid (ro5 = rootOf (!decide (a1 = sb)) ps5) := hro5
    have HLP : Hid ((flat (ps5 ++ aus1)).length ≤ M + (r.authority.length + r.path.length) + 4) := by
      show _ ≤ _
      rw [flat_app, List.length_append]
      exact HPL.out ps5 hf4
    have hle5 : (flat (ps5 ++ aus1)).length ≤ 100000000 := by have := HLP.out; omega
    have HF4 : Hid (flat ps5 = (resolve b r).path) := hf4.trans HP.out
    clear hro4 hro5 hf4
    obtain ⟨r0, r1, r2, r3, r4, r5, r6, r7, r8⟩ := refAll hI4.2.1
    obtain ⟨t0, t1, t2, t3, t4, t5, t6, t7⟩ := baseAll hI4.2.2.2.1
    go_upto_region 16 with fail
    obtain ⟨hI5, kn5⟩ := hI4.set 3 (.pointer pa5)
    replace hsc := kn5.chain hsc
    replace hau := kn5.chain hau
    have hpa5 := kn5.above hpa4
    have hdi5 := kn5.above hdi4
    clear kn5 hI4 hpa4 hdi4 r0 r1 r2 r3 r4 r5 r6 r7 r8 t0 t1 t2 t3 t4 t5 t6 t7
    generalize w4.setCell ⟨B + 1 + 1 + 1, 3, none⟩ (.pointer pa5) = w5 at *
    obtain ⟨r0, r1, r2, r3, r4, r5, r6, r7, r8⟩ := refAll hI5.2.1
    obtain ⟨t0, t1, t2, t3, t4, t5, t6, t7⟩ := baseAll (show Blk w5 (B + 1 + 1 + 1) (baseCells (some ⟨sb, 0, none⟩) (some ⟨a1, 0, none⟩) pa5 pa5 di5 ro5 ef5) 33 from hI5.2.2.2.1)
    obtain ⟨z0, z1, z2, z3, z4, z5, z6, z7⟩ := baseAll hI5.2.2.1
    cases hhq : r.hq with
    | false =>
      rw [hhq] at r7
      have HQ9 : Hid ((resolve b r).hq = false) := by show _ = _; rw [HQ.out.1]; exact hhq
      go_wp2
      refine fin36 (show TgI w B _ r (baseCells (some ⟨sb, 0, none⟩) (some ⟨a1, 0, none⟩) pa5 pa5 di5 ro5 ef5) _ from hI5) rfl rfl ?_
      intro w' hw' kw'
      refine ⟨a1, pa5, pa5, di5, ro5, ef5, aus1, ps5 ++ aus1, ps5 ++ aus1, ps5.tail, rfl, ?_, by rw [HBB.out]; exact hw'⟩
      exact BaseOK.keep (tgtOK hsc HOK.out.scf hau HA.out HNE.out hpa5 hdi5 hg4 HF4.out HRO.out hpa5.chain (by rw [HQ9.out]; simp) (by have := HLP.out; omega)) kw'
    | true =>
      rw [hhq] at r7
      have HQ9 : Hid ((resolve b r).hq = true ∧ (resolve b r).query = r.query) := ⟨HQ.out.1.trans hhq, HQ.out.2⟩
      have hex2 := extend_ch pa5 (ps5 ++ aus1) (⟨#[63]⟩ ++ S r.query) w5 hpa5.chain hle5 (by omega)
      go_upto_region 18 with (first | (go_at_call 28; refine hex2.mono ?_; rintro e w6 ⟨rfl, hch6, hb6, hz6⟩; have hI6 := hI5.below hb6; obtain ⟨x0, x1, x2, x3, x4, x5, x6, x7⟩ := baseAll (show Blk w6 (B + 1 + 1 + 1) (baseCells (some ⟨sb, 0, none⟩) (some ⟨a1, 0, none⟩) pa5 pa5 di5 ro5 ef5) 33 from hI6.2.2.2.1)))
      obtain ⟨hI7, kn7⟩ := hI6.set 3 (.pointer (some ⟨w5.heap.size, 0, none⟩))
      have kn6 := (Kp.below hb6).trans kn7
      have hch7 := kn7.chain hch6
      clear hI5 hI6 kn7 hch6 hb6 hz6 hex2 r0 r1 r2 r3 r4 r5 r6 r7 r8 t0 t1 t2 t3 t4 t5 t6 t7 x0 x1 x2 x3 x4 x5 x6 x7 z0 z1 z2 z3 z4 z5 z6 z7
      generalize w6.setCell ⟨B + 1 + 1 + 1, 3, none⟩ (.pointer (some ⟨w5.heap.size, 0, none⟩)) = w7 at *
      obtain ⟨t0, t1, t2, t3, t4, t5, t6, t7⟩ := baseAll (show Blk w7 (B + 1 + 1 + 1) (baseCells (some ⟨sb, 0, none⟩) (some ⟨a1, 0, none⟩) pa5 (some ⟨w5.heap.size, 0, none⟩) di5 ro5 ef5) 33 from hI7.2.2.2.1)
      obtain ⟨z0, z1, z2, z3, z4, z5, z6, z7⟩ := baseAll hI7.2.2.1
      go_wp2
      refine fin36 (show TgI w B _ r (baseCells (some ⟨sb, 0, none⟩) (some ⟨a1, 0, none⟩) pa5 (some ⟨w5.heap.size, 0, none⟩) di5 ro5 ef5) _ from hI7) rfl rfl ?_
      intro w' hw' kw'
      refine ⟨a1, pa5, some ⟨w5.heap.size, 0, none⟩, di5, ro5, ef5, aus1, ps5 ++ aus1, (⟨#[63]⟩ ++ S r.query) :: (ps5 ++ aus1), ps5.tail, rfl, ?_, by rw [HBB.out]; exact hw'⟩
      have hfq : flat ((⟨#[63]⟩ ++ S r.query) :: (ps5 ++ aus1)) = flat (ps5 ++ aus1) ++ 63 :: r.query := by simp [flat, S]
      exact BaseOK.keep (tgtOK (kn6.chain hsc) HOK.out.scf (kn6.chain hau) HA.out HNE.out (kn6.above hpa5) (kn6.above hdi5) hg4 HF4.out HRO.out hch7 (by rw [HQ9.out.1, HQ9.out.2, hfq]; rfl) (by rw [hfq, List.length_append]; have := HLP.out; simp only [List.length_cons]; omega)) kw'
  | false =>
    rw [hha] at r6
    have hpt := toList_nil r.path
    have hpt2 : (S r.path).toList.isEmpty = r.path.isEmpty := by rw [ByteArray.toList_eq, S_data]
    obtain ⟨z0, z1, z2, z3, z4, z5, z6, z7⟩ := baseAll hI.2.2.1
    have HNE : Hid ((resolve b r).ha = !decide (ab = sb)) := by
      show _ = _
      have e1 := HOK.out.ne
      have e2 := HOK.out.eq
      have : (resolve b r).ha = b.ha := by unfold resolve; simp [hha]
      rw [this]
      cases hb : b.ha with
      | true => simp [e1 hb]
      | false => simp [e2 hb]
    have HA : Hid (flat aus = flat scs ++ (if (resolve b r).ha then [47, 47] ++ (resolve b r).authority else [])) := by
      show _ = _; rw [HOK.out.auf]; unfold resolve; simp [hha]
    by_cases hp : r.path = []
    · have hpe : r.path.isEmpty = true := by rw [hp]; rfl
      rw [hpe] at hpt hpt2
      cases hhq : r.hq with
      | false =>
        rw [hhq] at r7
        have hfin := tgtSame (M' := M + (r.authority.length + r.path.length + r.query.length) + 10) HOK.out (Kp.below (w := w) (by have := hI.2.2.2.2; rw [← HBB.out] at this; exact this)) hha hp hqu (by rw [HOK.out.quf]; unfold resolve; simp [hha, hp, hhq]) (by have := HOK.out.len; omega) (by omega)
        clear hp hpe
        go_wp2
        refine fin36 hI rfl rfl ?_
        intro w' hw' kw'
        exact ⟨ab, pa, qu, di, ro, ef, aus, pas, qus, ds, rfl, hfin.keep kw', by rw [HBB.out]; exact hw'⟩
      | true =>
        rw [hhq] at r7
        have HKW : Hid (Kp w w1) := Kp.below (w := w) (by have := hI.2.2.2.2; rw [← HBB.out] at this; exact this)
        have HS : Hid (r.ha = false ∧ r.path = [] ∧ r.hq = true) := ⟨hha, hp, hhq⟩
        have hex2 := extend_ch pa pas (⟨#[63]⟩ ++ S r.query) w1 hpa (by omega) (by omega)
        clear hp hpe
        go_upto_region 12 with (first | (go_at_call 28; refine hex2.mono ?_; rintro e w6 ⟨rfl, hch6, hb6, hz6⟩; have hI6 := hI.below hb6; obtain ⟨x0, x1, x2, x3, x4, x5, x6, x7⟩ := baseAll hI6.2.2.2.1))
        obtain ⟨hI7, kn7⟩ := hI6.set 3 (.pointer (some ⟨w1.heap.size, 0, none⟩))
        have kn6 := (Kp.below hb6).trans kn7
        have hch7 := kn7.chain hch6
        clear hI hI6 kn7 hch6 hb6 hz6 hex2 r0 r1 r2 r3 r4 r5 r6 r7 r8 t0 t1 t2 t3 t4 t5 t6 t7 x0 x1 x2 x3 x4 x5 x6 x7 z0 z1 z2 z3 z4 z5 z6 z7 b0 b1 b2 b3 b4 b5 b6 b7
        generalize w6.setCell ⟨B + 1 + 1 + 1, 3, none⟩ (.pointer (some ⟨w1.heap.size, 0, none⟩)) = w7 at *
        obtain ⟨t0, t1, t2, t3, t4, t5, t6, t7⟩ := baseAll (show Blk w7 (B + 1 + 1 + 1) (baseCells (some ⟨sb, 0, none⟩) (some ⟨ab, 0, none⟩) pa (some ⟨w1.heap.size, 0, none⟩) di ro ef) 33 from hI7.2.2.2.1)
        obtain ⟨z0, z1, z2, z3, z4, z5, z6, z7⟩ := baseAll hI7.2.2.1
        go_wp2
        refine fin36 (show TgI w B _ r (baseCells (some ⟨sb, 0, none⟩) (some ⟨ab, 0, none⟩) pa (some ⟨w1.heap.size, 0, none⟩) di ro ef) _ from hI7) rfl rfl ?_
        intro w' hw' kw'
        have hfq : flat ((⟨#[63]⟩ ++ S r.query) :: pas) = flat pas ++ 63 :: r.query := by simp [flat, S]
        refine ⟨ab, pa, some ⟨w1.heap.size, 0, none⟩, di, ro, ef, aus, pas, (⟨#[63]⟩ ++ S r.query) :: pas, ds, rfl, ?_, by rw [HBB.out]; exact hw'⟩
        exact tgtSame (M' := M + (r.authority.length + r.path.length + r.query.length) + 10) HOK.out ((HKW.out.trans kn6).trans kw') HS.out.1 HS.out.2.1 (kw'.chain hch7) (by rw [hfq]; unfold resolve; simp [HS.out.1, HS.out.2.1, HS.out.2.2]) (by rw [hfq, List.length_append]; simp only [List.length_cons]; omega) (by omega)
    · have hpe : r.path.isEmpty = false := by simpa using hp
      rw [hpe] at hpt hpt2
      have hpre := fun w => Try.strings_HasPrefix (S r.path) ⟨#[47]⟩ w
      rw [S_data, show (ByteArray.mk #[47]).data.toList = [47] from rfl, hpre47] at hpre
      have HQ : Hid ((resolve b r).hq = r.hq ∧ (resolve b r).query = r.query) := by
        show _ ∧ _; unfold resolve; simp [hp]
      by_cases h47 : r.path.head? = some 47
      · rw [decide_eq_true h47] at hpre
        have HP : Hid (RD (flat []) (S r.path).data.toList = (resolve b r).path) := by
          show _ = _; rw [S_data]; unfold resolve resolvePath; simp [hha, hp, h47, flat]
        have HPL : Hid (∀ ps : List ByteArray, flat ps = RD (flat []) (S r.path).data.toList → (flat aus).length + (flat ps).length ≤ M + (r.authority.length + r.path.length) + 4) := by
          intro ps h
          rw [h]
          have := RD_len (flat []) (S r.path).data.toList
          rw [S_data] at this ⊢
          simp only [flat, List.length_nil] at this ⊢
          omega
        have hrp := readPath_any (B + 1 + 1 + 1) sb ab pa qu di ro ef false (some ⟨ab, 0, none⟩) scs aus [] (S r.path) w1 hI.2.2.2.1 hsc hau ⟨rfl, hau⟩ trivial (.inl rfl) (by rw [List.nil_append, S_size]; omega)
        clear hp hpe h47
        go_upto_region 15 with (first | (go_at_call 39; refine (hpre _).mono ?_; rintro e w9 ⟨rfl, hw9⟩; have hw9 := hw9.symm; subst hw9) | (go_at_call 47; refine hrp.mono ?_; rintro e w4 ⟨rfl, pa5, di5, ro5, ef5, ps5, hb4, hpa4, hdi4, hg4, hf4, hro4, kn4, hbe4⟩))
        have hI4 := hI.read hbe4 hb4
        replace hau := kn4.chain hau
        replace hsc := kn4.chain hsc
        clear hI hrp kn4 hbe4 hb4 hpa hqu hdi r0 r1 r2 r3 r4 r5 r6 r7 r8 t0 t1 t2 t3 t4 t5 t6 t7 z0 z1 z2 z3 z4 z5 z6 z7 b0 b1 b2 b3 b4 b5 b6 b7
        have hro5 : ro5 = rootOf (!decide (ab = sb)) ps5 := by rw [hro4]; cases ps5 <;> rfl
        have HRO : Hid (ro5 = rootOf (!decide (ab = sb)) ps5) := hro5
        have HLP : Hid ((flat (ps5 ++ aus)).length ≤ M + (r.authority.length + r.path.length) + 4) := by
          show _ ≤ _
          rw [flat_app, List.length_append]
          exact HPL.out ps5 hf4
        have hle5 : (flat (ps5 ++ aus)).length ≤ 100000000 := by have := HLP.out; omega
        have HF4 : Hid (flat ps5 = (resolve b r).path) := hf4.trans HP.out
        clear hro4 hro5 hf4
        obtain ⟨r0, r1, r2, r3, r4, r5, r6, r7, r8⟩ := refAll hI4.2.1
        obtain ⟨t0, t1, t2, t3, t4, t5, t6, t7⟩ := baseAll hI4.2.2.2.1
        go_upto_region 16 with fail
        obtain ⟨hI5, kn5⟩ := hI4.set 3 (.pointer pa5)
        replace hsc := kn5.chain hsc
        replace hau := kn5.chain hau
        have hpa5 := kn5.above hpa4
        have hdi5 := kn5.above hdi4
        clear kn5 hI4 hpa4 hdi4 r0 r1 r2 r3 r4 r5 r6 r7 r8 t0 t1 t2 t3 t4 t5 t6 t7
        generalize w4.setCell ⟨B + 1 + 1 + 1, 3, none⟩ (.pointer pa5) = w5 at *
        obtain ⟨r0, r1, r2, r3, r4, r5, r6, r7, r8⟩ := refAll hI5.2.1
        obtain ⟨t0, t1, t2, t3, t4, t5, t6, t7⟩ := baseAll (show Blk w5 (B + 1 + 1 + 1) (baseCells (some ⟨sb, 0, none⟩) (some ⟨ab, 0, none⟩) pa5 pa5 di5 ro5 ef5) 33 from hI5.2.2.2.1)
        obtain ⟨z0, z1, z2, z3, z4, z5, z6, z7⟩ := baseAll hI5.2.2.1
        cases hhq : r.hq with
        | false =>
          rw [hhq] at r7
          have HQ9 : Hid ((resolve b r).hq = false) := by show _ = _; rw [HQ.out.1]; exact hhq
          go_wp2
          refine fin36 (show TgI w B _ r (baseCells (some ⟨sb, 0, none⟩) (some ⟨ab, 0, none⟩) pa5 pa5 di5 ro5 ef5) _ from hI5) rfl rfl ?_
          intro w' hw' kw'
          refine ⟨ab, pa5, pa5, di5, ro5, ef5, aus, ps5 ++ aus, ps5 ++ aus, ps5.tail, rfl, ?_, by rw [HBB.out]; exact hw'⟩
          exact BaseOK.keep (tgtOK hsc HOK.out.scf hau HA.out HNE.out hpa5 hdi5 hg4 HF4.out HRO.out hpa5.chain (by rw [HQ9.out]; simp) (by have := HLP.out; omega)) kw'
        | true =>
          rw [hhq] at r7
          have HQ9 : Hid ((resolve b r).hq = true ∧ (resolve b r).query = r.query) := ⟨HQ.out.1.trans hhq, HQ.out.2⟩
          have hex2 := extend_ch pa5 (ps5 ++ aus) (⟨#[63]⟩ ++ S r.query) w5 hpa5.chain hle5 (by omega)
          go_upto_region 18 with (first | (go_at_call 28; refine hex2.mono ?_; rintro e w6 ⟨rfl, hch6, hb6, hz6⟩; have hI6 := hI5.below hb6; obtain ⟨x0, x1, x2, x3, x4, x5, x6, x7⟩ := baseAll (show Blk w6 (B + 1 + 1 + 1) (baseCells (some ⟨sb, 0, none⟩) (some ⟨ab, 0, none⟩) pa5 pa5 di5 ro5 ef5) 33 from hI6.2.2.2.1)))
          obtain ⟨hI7, kn7⟩ := hI6.set 3 (.pointer (some ⟨w5.heap.size, 0, none⟩))
          have kn6 := (Kp.below hb6).trans kn7
          have hch7 := kn7.chain hch6
          clear hI5 hI6 kn7 hch6 hb6 hz6 hex2 r0 r1 r2 r3 r4 r5 r6 r7 r8 t0 t1 t2 t3 t4 t5 t6 t7 x0 x1 x2 x3 x4 x5 x6 x7 z0 z1 z2 z3 z4 z5 z6 z7
          generalize w6.setCell ⟨B + 1 + 1 + 1, 3, none⟩ (.pointer (some ⟨w5.heap.size, 0, none⟩)) = w7 at *
          obtain ⟨t0, t1, t2, t3, t4, t5, t6, t7⟩ := baseAll (show Blk w7 (B + 1 + 1 + 1) (baseCells (some ⟨sb, 0, none⟩) (some ⟨ab, 0, none⟩) pa5 (some ⟨w5.heap.size, 0, none⟩) di5 ro5 ef5) 33 from hI7.2.2.2.1)
          obtain ⟨z0, z1, z2, z3, z4, z5, z6, z7⟩ := baseAll hI7.2.2.1
          go_wp2
          refine fin36 (show TgI w B _ r (baseCells (some ⟨sb, 0, none⟩) (some ⟨ab, 0, none⟩) pa5 (some ⟨w5.heap.size, 0, none⟩) di5 ro5 ef5) _ from hI7) rfl rfl ?_
          intro w' hw' kw'
          refine ⟨ab, pa5, some ⟨w5.heap.size, 0, none⟩, di5, ro5, ef5, aus, ps5 ++ aus, (⟨#[63]⟩ ++ S r.query) :: (ps5 ++ aus), ps5.tail, rfl, ?_, by rw [HBB.out]; exact hw'⟩
          have hfq : flat ((⟨#[63]⟩ ++ S r.query) :: (ps5 ++ aus)) = flat (ps5 ++ aus) ++ 63 :: r.query := by simp [flat, S]
          exact BaseOK.keep (tgtOK (kn6.chain hsc) HOK.out.scf (kn6.chain hau) HA.out HNE.out (kn6.above hpa5) (kn6.above hdi5) hg4 HF4.out HRO.out hch7 (by rw [HQ9.out.1, HQ9.out.2, hfq]; rfl) (by rw [hfq, List.length_append]; have := HLP.out; simp only [List.length_cons]; omega)) kw'
      · rw [decide_eq_false h47] at hpre
        obtain ⟨IN, HIN⟩ : ∃ IN, Hid (IN = (if ro then [47] else []) ++ r.path) := ⟨(if ro then [47] else []) ++ r.path, rfl⟩
        have hINl : IN.length ≤ r.path.length + 1 := by rw [HIN.out]; cases ro <;> simp <;> omega
        have HP : Hid (RD (flat ds) (S IN).data.toList = (resolve b r).path) := by
          show _ = _; rw [S_data, HIN.out, ← HOK.out.mer]; unfold resolve resolvePath; simp [hha, hp, h47]
        have HPL : Hid (∀ ps : List ByteArray, flat ps = RD (flat ds) (S IN).data.toList → (flat aus).length + (flat ps).length ≤ M + (r.authority.length + r.path.length) + 4) := by
          intro ps h
          rw [h]
          have := RD_len (flat ds) (S IN).data.toList
          rw [S_data] at this ⊢
          omega
        have hsl : ds = [] ∨ ∃ x, (S IN).data.toList = 47 :: x := by
          rcases HOK.out.roo with h | h
          · exact .inl h
          · exact .inr ⟨r.path, by rw [S_data, HIN.out, h]; rfl⟩
        have hrp := fun w hk hs ha hd => readPath_any (B + 1 + 1 + 1) sb ab pa qu di ro ef ef di scs aus ds (S IN) w hk hs ha hd HOK.out.good hsl (by rw [flat_app, List.length_append, S_size]; omega)
        clear hp hpe h47 hsl
        go_upto_if 11 with (first | (go_at_call 39; refine (hpre _).mono ?_; rintro e w9 ⟨rfl, hw9⟩; have hw9 := hw9.symm; subst hw9))
        go_cut [6] (fun s6 wx => s6 = .string (S IN) ∧ w1 = wx)
        case first =>
          cases hro : ro with
          | true =>
            have HI2 : Hid (IN = [47] ++ r.path) := by have h := HIN.out; rw [hro] at h; exact h
            go_wp2
            go_meet
            exact ⟨str_eq (by rw [HI2.out]; simp [S]), rfl⟩
          | false =>
            have HI2 : Hid (IN = r.path) := by have h := HIN.out; rw [hro] at h; exact h
            go_wp2
            go_meet
            exact ⟨by rw [HI2.out], rfl⟩
        case rest =>
          obtain ⟨rfl, rfl⟩ := hcut
          have hrp1 := hrp w1 hI.2.2.2.1 hsc hau hdi
          clear hrp
          go_upto_region 15 with (first | (go_at_call 47; refine hrp1.mono ?_; rintro e w4 ⟨rfl, pa5, di5, ro5, ef5, ps5, hb4, hpa4, hdi4, hg4, hf4, hro4, kn4, hbe4⟩))
          have hI4 := hI.read hbe4 hb4
          replace hau := kn4.chain hau
          replace hsc := kn4.chain hsc
          clear hI hrp1 kn4 hbe4 hb4 hpa hqu hdi r0 r1 r2 r3 r4 r5 r6 r7 r8 t0 t1 t2 t3 t4 t5 t6 t7 z0 z1 z2 z3 z4 z5 z6 z7 b0 b1 b2 b3 b4 b5 b6 b7
          have hro5 : ro5 = rootOf (!decide (ab = sb)) ps5 := by rw [hro4]; cases ps5 <;> rfl
          have HRO : Hid (ro5 = rootOf (!decide (ab = sb)) ps5) := hro5
          have HLP : Hid ((flat (ps5 ++ aus)).length ≤ M + (r.authority.length + r.path.length) + 4) := by
            show _ ≤ _
            rw [flat_app, List.length_append]
            exact HPL.out ps5 hf4
          have hle5 : (flat (ps5 ++ aus)).length ≤ 100000000 := by have := HLP.out; omega
          have HF4 : Hid (flat ps5 = (resolve b r).path) := hf4.trans HP.out
          clear hro4 hro5 hf4
          obtain ⟨r0, r1, r2, r3, r4, r5, r6, r7, r8⟩ := refAll hI4.2.1
          obtain ⟨t0, t1, t2, t3, t4, t5, t6, t7⟩ := baseAll hI4.2.2.2.1
          go_upto_region 16 with fail
          obtain ⟨hI5, kn5⟩ := hI4.set 3 (.pointer pa5)
          replace hsc := kn5.chain hsc
          replace hau := kn5.chain hau
          have hpa5 := kn5.above hpa4
          have hdi5 := kn5.above hdi4
          clear kn5 hI4 hpa4 hdi4 r0 r1 r2 r3 r4 r5 r6 r7 r8 t0 t1 t2 t3 t4 t5 t6 t7
          generalize w4.setCell ⟨B + 1 + 1 + 1, 3, none⟩ (.pointer pa5) = w5 at *
          obtain ⟨r0, r1, r2, r3, r4, r5, r6, r7, r8⟩ := refAll hI5.2.1
          obtain ⟨t0, t1, t2, t3, t4, t5, t6, t7⟩ := baseAll (show Blk w5 (B + 1 + 1 + 1) (baseCells (some ⟨sb, 0, none⟩) (some ⟨ab, 0, none⟩) pa5 pa5 di5 ro5 ef5) 33 from hI5.2.2.2.1)
          obtain ⟨z0, z1, z2, z3, z4, z5, z6, z7⟩ := baseAll hI5.2.2.1
          cases hhq : r.hq with
          | false =>
            rw [hhq] at r7
            have HQ9 : Hid ((resolve b r).hq = false) := by show _ = _; rw [HQ.out.1]; exact hhq
            go_wp2
            refine fin36 (show TgI w B _ r (baseCells (some ⟨sb, 0, none⟩) (some ⟨ab, 0, none⟩) pa5 pa5 di5 ro5 ef5) _ from hI5) rfl rfl ?_
            intro w' hw' kw'
            refine ⟨ab, pa5, pa5, di5, ro5, ef5, aus, ps5 ++ aus, ps5 ++ aus, ps5.tail, rfl, ?_, by rw [HBB.out]; exact hw'⟩
            exact BaseOK.keep (tgtOK hsc HOK.out.scf hau HA.out HNE.out hpa5 hdi5 hg4 HF4.out HRO.out hpa5.chain (by rw [HQ9.out]; simp) (by have := HLP.out; omega)) kw'
          | true =>
            rw [hhq] at r7
            have HQ9 : Hid ((resolve b r).hq = true ∧ (resolve b r).query = r.query) := ⟨HQ.out.1.trans hhq, HQ.out.2⟩
            have hex2 := extend_ch pa5 (ps5 ++ aus) (⟨#[63]⟩ ++ S r.query) w5 hpa5.chain hle5 (by omega)
            go_upto_region 18 with (first | (go_at_call 28; refine hex2.mono ?_; rintro e w6 ⟨rfl, hch6, hb6, hz6⟩; have hI6 := hI5.below hb6; obtain ⟨x0, x1, x2, x3, x4, x5, x6, x7⟩ := baseAll (show Blk w6 (B + 1 + 1 + 1) (baseCells (some ⟨sb, 0, none⟩) (some ⟨ab, 0, none⟩) pa5 pa5 di5 ro5 ef5) 33 from hI6.2.2.2.1)))
            obtain ⟨hI7, kn7⟩ := hI6.set 3 (.pointer (some ⟨w5.heap.size, 0, none⟩))
            have kn6 := (Kp.below hb6).trans kn7
            have hch7 := kn7.chain hch6
            clear hI5 hI6 kn7 hch6 hb6 hz6 hex2 r0 r1 r2 r3 r4 r5 r6 r7 r8 t0 t1 t2 t3 t4 t5 t6 t7 x0 x1 x2 x3 x4 x5 x6 x7 z0 z1 z2 z3 z4 z5 z6 z7
            generalize w6.setCell ⟨B + 1 + 1 + 1, 3, none⟩ (.pointer (some ⟨w5.heap.size, 0, none⟩)) = w7 at *
            obtain ⟨t0, t1, t2, t3, t4, t5, t6, t7⟩ := baseAll (show Blk w7 (B + 1 + 1 + 1) (baseCells (some ⟨sb, 0, none⟩) (some ⟨ab, 0, none⟩) pa5 (some ⟨w5.heap.size, 0, none⟩) di5 ro5 ef5) 33 from hI7.2.2.2.1)
            obtain ⟨z0, z1, z2, z3, z4, z5, z6, z7⟩ := baseAll hI7.2.2.1
            go_wp2
            refine fin36 (show TgI w B _ r (baseCells (some ⟨sb, 0, none⟩) (some ⟨ab, 0, none⟩) pa5 (some ⟨w5.heap.size, 0, none⟩) di5 ro5 ef5) _ from hI7) rfl rfl ?_
            intro w' hw' kw'
            refine ⟨ab, pa5, some ⟨w5.heap.size, 0, none⟩, di5, ro5, ef5, aus, ps5 ++ aus, (⟨#[63]⟩ ++ S r.query) :: (ps5 ++ aus), ps5.tail, rfl, ?_, by rw [HBB.out]; exact hw'⟩
            have hfq : flat ((⟨#[63]⟩ ++ S r.query) :: (ps5 ++ aus)) = flat (ps5 ++ aus) ++ 63 :: r.query := by simp [flat, S]
            exact BaseOK.keep (tgtOK (kn6.chain hsc) HOK.out.scf (kn6.chain hau) HA.out HNE.out (kn6.above hpa5) (kn6.above hdi5) hg4 HF4.out HRO.out hch7 (by rw [HQ9.out.1, HQ9.out.2, hfq]; rfl) (by rw [hfq, List.length_append]; have := HLP.out; simp only [List.length_cons]; omega)) kw'
end Go.Proofs.Qxb6000768a
