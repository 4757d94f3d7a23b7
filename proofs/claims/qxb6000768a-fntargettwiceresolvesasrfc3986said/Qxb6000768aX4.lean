import Derived.Test.Qxb6000768aX3
set_option linter.unusedSimpArgs false
set_option linter.unusedVariables false
namespace Go.Proofs.Qxb6000768a
open Go.RowKit

theorem parse_len (s : Bs) : (parse s).scheme.length + (parse s).authority.length + (parse s).path.length + (parse s).query.length ≤ s.length := by
  have h1 := cutScheme_len s
  have h2 := cutAuth_len (cutScheme s).2.1
  have h3 := cutAt_len 35 (cutAuth (cutScheme s).2.1).2.1
  have h4 := cutAt_len 63 (cutAt 35 (cutAuth (cutScheme s).2.1).2.1).1
  simp only [parse]
  omega
theorem S_add (a b : Bs) : S a ++ S b = S (a ++ b) := ByteArray.mk_append_mk a b

theorem S_snoc (a b : Bs) : S a ++ (ByteArray.mk b.toArray) = S (a ++ b) := ByteArray.mk_append_mk a b
theorem chain_new {w : World} {p : Option Addr} {ts : List ByteArray} (h : Chain w p ts) (s : ByteArray) (n : Int) (hn : n = ((flat ts).length + s.size : Nat)) : Chain (w.alloc (.cells #[.pointer p, .string s, .int .i64 n] 54)) (some ⟨w.heap.size, 0, none⟩) (s :: ts) := by
  subst hn
  refine ⟨w.heap.size, p, rfl, ?_, ?_, ?_⟩
  · have : (flat (s :: ts)).length = (flat ts).length + s.size := by simp [flat, blen]
    rw [this]; exact Piece.new w p s _
  · rintro b' rfl; exact h.lt
  · exact (Kp.alloc (Kp.refl w) _).chain h
/-- extend, at a chain -/
theorem extend_ch (p : Option Addr) (ts : List ByteArray) (s : ByteArray) (w : World) (h : Chain w p ts) (hn : (flat ts).length ≤ 100000000) (hs : s.size ≤ 100000000) :
    Calls Try.prog 28 #[.pointer p, .string s] w fun e w' => e = .returned (.pointer (some ⟨w.heap.size, 0, none⟩)) ∧ Chain w' (some ⟨w.heap.size, 0, none⟩) (s :: ts) ∧ Below w.heap.size w w' ∧ w'.heap.size = w.heap.size + 1 := by
  refine (extend_any p s _ w h.len hn hs).mono ?_
  rintro e w' ⟨he, rfl⟩
  exact ⟨he, chain_new h s _ rfl, (Below.refl _ _).alloc (Nat.le_refl _) _, by simp⟩

theorem last_up (p : Bs) (hp : p.length ≤ 2000000) : ∃ k : Nat, Lib.lastIndexByte (S p) 47 = (k : Int) - 1 ∧ k ≤ p.length ∧ p.take k = upSlash p := by
  have hget : ∀ j, j < p.length → (((S p).data[j]!).toNat : Int) = (p[j]!.toNat : Int) := by
    intro j hj
    simp [S, hj]
  rcases Lib.lastIndexByte_spec (S p) 47 with ⟨h1, h2⟩ | ⟨i, hi, h1, h2, h3⟩
  · refine ⟨0, by rw [h1]; rfl, Nat.zero_le _, ?_⟩
    rw [upSlash_none]
    · rfl
    · intro hm
      obtain ⟨k, hk, e⟩ := List.mem_iff_getElem.1 hm
      have := h2 k (by rw [S_size]; exact hk)
      rw [hget k hk] at this
      apply this
      simp [hk, e]
  · rw [S_size] at hi h3
    refine ⟨i + 1, by rw [h1]; simp, by omega, ?_⟩
    rw [hget i hi] at h2
    have e47 : p[i] = 47 := by
      apply UInt8.toNat_inj.1
      simp [hi] at h2
      show p[i].toNat = 47
      omega
    have hno : (47 : UInt8) ∉ p.drop (i + 1) := by
      intro hm
      obtain ⟨k, hk, e⟩ := List.mem_iff_getElem.1 hm
      simp at hk e
      have := h3 (i + 1 + k) (by omega) (by omega)
      rw [hget _ (by omega)] at this
      apply this
      have hlt : i + 1 + k < p.length := by omega
      simp [hlt, e]
    have hpe : p = p.take i ++ 47 :: p.drop (i + 1) := by
      conv => lhs; rw [← List.take_append_drop i p, List.drop_eq_getElem_cons hi, e47]
    rw [show upSlash p = upSlash (p.take i ++ 47 :: p.drop (i + 1)) from by rw [← hpe], upSlash_at _ _ hno, List.take_succ_eq_append_getElem hi, e47]

def zB : Array Value := baseCells none none none none none false false

theorem app_size (a b : ByteArray) : (a ++ b).size = a.size + b.size := ByteArray.size_append
/-- what holds between NewBase's statements -/
def NB (w : World) (B b1 b2 : Nat) (R : PRef) (sc au pa qu : Option Addr) (wx : World) : Prop :=
  Blk wx b1 (refCells R.scheme R.authority R.path R.query R.fragment R.hs R.ha R.hq R.hf) 48 ∧ Blk wx b2 (baseCells sc au pa qu none false false) 33 ∧ Blk wx B zB 33 ∧ Below B w wx ∧ B < b1 ∧ B < b2 ∧ b1 ≠ b2

theorem NB.step {w : World} {B b1 b2 : Nat} {R : PRef} {sc au pa qu sc' au' pa' qu' : Option Addr} {wc w2 : World} (h : NB w B b1 b2 R sc au pa qu wc) (hb : Below wc.heap.size wc w2) (j : Nat) (v : Value)
    (hc : (baseCells sc au pa qu none false false).setIfInBounds j v = baseCells sc' au' pa' qu' none false false) :
    NB w B b1 b2 R sc' au' pa' qu' (w2.setCell ⟨b2, j, none⟩ v) ∧ Kp wc (w2.setCell ⟨b2, j, none⟩ v) ∧ Kp w2 (w2.setCell ⟨b2, j, none⟩ v) := by
  obtain ⟨k1, k2, k0, k3, hB1, hB2, h12⟩ := h
  have j1 := k1.below hb k1.lt
  have j2 := k2.below hb k2.lt
  have j0 := k0.below hb k0.lt
  have j3 := k3.trans (hb.mono (Nat.le_of_lt (Nat.lt_of_lt_of_le hB1 (Nat.le_of_lt k1.lt))))
  exact ⟨⟨j1.setOther _ (Ne.symm h12) _, (j2.set j v).to hc, j0.setOther _ (by simp; omega) _, j3.setCell (by simp; omega) _, hB1, hB2, h12⟩, (Kp.below hb).set j2 (by decide) _ _, (Kp.refl _).set j2 (by decide) _ _⟩
theorem Blk.grown {w w' : World} {b g : Nat} {cs : Array Value} {T : TypeId} (h : Blk w b cs T) (hg : w.grownBy w' (some g)) (hne : b ≠ g) : Blk w' b cs T := by
  unfold Blk; rw [hg.block b h.lt (by simp [hne])]; exact h
theorem NB.grown {w : World} {B b1 b2 g : Nat} {R : PRef} {sc au pa qu : Option Addr} {wc w2 : World} (h : NB w B b1 b2 R sc au pa qu wc) (hg : wc.grownBy w2 (some g)) (h0 : B < g) (h1 : b1 ≠ g) (h2 : b2 ≠ g) : NB w B b1 b2 R sc au pa qu w2 := by
  obtain ⟨k1, k2, k0, k3, hB1, hB2, h12⟩ := h
  exact ⟨k1.grown hg h1, k2.grown hg h2, k0.grown hg (by omega), k3.trans (below_of_grown hg (by omega) (Nat.le_of_lt k0.lt)), hB1, hB2, h12⟩
theorem NB.drewN {w : World} {B b1 b2 : Nat} {R : PRef} {sc au pa qu : Option Addr} {wc : World} (h : NB w B b1 b2 R sc au pa qu wc) (n : Nat) : NB w B b1 b2 R sc au pa qu (wc.drewN n) := by
  obtain ⟨k1, k2, k0, k3, hB1, hB2, h12⟩ := h
  exact ⟨k1, k2, k0, belowDrewN k3 n, hB1, hB2, h12⟩
theorem ret19 {Q : Ending → World → Prop} {a : Act} {W : World} {B : Nat} {sc au pa qu di : Option Addr} {ro ef : Bool} (hd : a.defers = []) (hs : a.tmps[2]?.getD undef = .pointer (some ⟨B, 0, none⟩)) (hW : Blk W B (baseCells sc au pa qu di ro ef) 33)
    (h : Q (.returned (.agg (baseCells sc au pa qu di ro ef))) W) : bodyPost Try.prog Try.f19 Q Exit.ret a W := by
  have e0 := hW.cell 0
  have e1 := hW.cell 1
  have e2 := hW.cell 2
  have e3 := hW.cell 3
  have e4 := hW.cell 4
  have e5 := hW.cell 5
  have e6 := hW.cell 6
  simp [baseCells] at e0 e1 e2 e3 e4 e5 e6
  exact bodyPost_ret (v := .agg (baseCells sc au pa qu di ro ef)) (by simp [results, Try.results19, hs, go_sem, baseCells, e0, e1, e2, e3, e4, e5, e6]) hd h
theorem fin7 {wx : World} {B : Nat} {cs : Array Value} (k0 : Blk wx B cs 33) (hc : cs.size = 7) (x0 x1 x2 x3 x4 x5 x6 : Value) :
    Blk (((((((wx.setCell ⟨B, 0, none⟩ x0).setCell ⟨B, 1, none⟩ x1).setCell ⟨B, 2, none⟩ x2).setCell ⟨B, 3, none⟩ x3).setCell ⟨B, 4, none⟩ x4).setCell ⟨B, 5, none⟩ x5).setCell ⟨B, 6, none⟩ x6) B #[x0, x1, x2, x3, x4, x5, x6] 33 ∧
    Kp wx (((((((wx.setCell ⟨B, 0, none⟩ x0).setCell ⟨B, 1, none⟩ x1).setCell ⟨B, 2, none⟩ x2).setCell ⟨B, 3, none⟩ x3).setCell ⟨B, 4, none⟩ x4).setCell ⟨B, 5, none⟩ x5).setCell ⟨B, 6, none⟩ x6) := by
  have s0 := k0.set 0 x0
  have s1 := s0.set 1 x1
  have s2 := s1.set 2 x2
  have s3 := s2.set 3 x3
  have s4 := s3.set 4 x4
  have s5 := s4.set 5 x5
  have s6 := s5.set 6 x6
  refine ⟨s6.to ?_, (((((((Kp.refl wx).set k0 (by decide) _ _).set s0 (by decide) _ _).set s1 (by decide) _ _).set s2 (by decide) _ _).set s3 (by decide) _ _).set s4 (by decide) _ _).set s5 (by decide) _ _⟩
  apply Array.ext
  · simp [hc]
  · intro i h1 h2
    have h7 : i < 7 := by simpa using h2
    have : i = 0 ∨ i = 1 ∨ i = 2 ∨ i = 3 ∨ i = 4 ∨ i = 5 ∨ i = 6 := by omega
    rcases this with rfl | rfl | rfl | rfl | rfl | rfl | rfl <;> simp [hc]
theorem below7 {w wx : World} {B : Nat} (h : Below B w wx) (x0 x1 x2 x3 x4 x5 x6 : Value) :
    Below B w (((((((wx.setCell ⟨B, 0, none⟩ x0).setCell ⟨B, 1, none⟩ x1).setCell ⟨B, 2, none⟩ x2).setCell ⟨B, 3, none⟩ x3).setCell ⟨B, 4, none⟩ x4).setCell ⟨B, 5, none⟩ x5).setCell ⟨B, 6, none⟩ x6) :=
  ((((((h.setCell (Nat.le_refl _) _).setCell (Nat.le_refl _) _).setCell (Nat.le_refl _) _).setCell (Nat.le_refl _) _).setCell (Nat.le_refl _) _).setCell (Nat.le_refl _) _).setCell (Nat.le_refl _) _
theorem NB.alloc {w : World} {B b1 b2 : Nat} {R : PRef} {sc au pa qu : Option Addr} {wc : World} (h : NB w B b1 b2 R sc au pa qu wc) (o : Obj) : NB w B b1 b2 R sc au pa qu (wc.alloc o) := by
  obtain ⟨k1, k2, k0, k3, hB1, hB2, h12⟩ := h
  exact ⟨k1.alloc _, k2.alloc _, k0.alloc _, k3.alloc (Nat.le_of_lt k0.lt) _, hB1, hB2, h12⟩
theorem refAll {w : World} {b : Nat} {sc au pa qu fr : Bs} {hs ha hq hf : Bool} (h : Blk w b (refCells sc au pa qu fr hs ha hq hf) 48) :
    w.cell? ⟨b, 0, none⟩ = some (.string (S sc)) ∧ w.cell? ⟨b, 1, none⟩ = some (.string (S au)) ∧ w.cell? ⟨b, 2, none⟩ = some (.string (S pa)) ∧ w.cell? ⟨b, 3, none⟩ = some (.string (S qu)) ∧ w.cell? ⟨b, 4, none⟩ = some (.string (S fr)) ∧
    w.cell? ⟨b, 5, none⟩ = some (.bool hs) ∧ w.cell? ⟨b, 6, none⟩ = some (.bool ha) ∧ w.cell? ⟨b, 7, none⟩ = some (.bool hq) ∧ w.cell? ⟨b, 8, none⟩ = some (.bool hf) :=
  ⟨h.cell 0, h.cell 1, h.cell 2, h.cell 3, h.cell 4, h.cell 5, h.cell 6, h.cell 7, h.cell 8⟩
theorem baseAll {w : World} {b : Nat} {sc au pa qu di : Option Addr} {ro ef : Bool} (h : Blk w b (baseCells sc au pa qu di ro ef) 33) :
    w.cell? ⟨b, 0, none⟩ = some (.pointer sc) ∧ w.cell? ⟨b, 1, none⟩ = some (.pointer au) ∧ w.cell? ⟨b, 2, none⟩ = some (.pointer pa) ∧ w.cell? ⟨b, 3, none⟩ = some (.pointer qu) ∧ w.cell? ⟨b, 4, none⟩ = some (.pointer di) ∧
    w.cell? ⟨b, 5, none⟩ = some (.bool ro) ∧ w.cell? ⟨b, 6, none⟩ = some (.bool ef) ∧ (∀ j, w.frozen? ⟨b, j, none⟩ = false) :=
  ⟨h.cell 0, h.cell 1, h.cell 2, h.cell 3, h.cell 4, h.cell 5, h.cell 6, h.thaw⟩

theorem newOK (R : PRef) (sb ab : Nat) (pa qu di : Option Addr) (w : World) (aus pas qus ps : List ByteArray) (hg : Good ps) (hlen : R.scheme.length + R.authority.length + R.path.length + R.query.length ≤ 2000000)
    (h1 : flat aus = R.scheme ++ [58] ++ (if R.ha then [47, 47] ++ R.authority else []) ∧ (R.ha = true → ab ≠ sb) ∧ (R.ha = false → ab = sb)) (h2 : flat pas = flat aus ++ R.path) (h3 : flat qus = flat pas ++ (if R.hq then 63 :: R.query else []))
    (h4 : flat ps = RD [] (if R.ha = true ∧ R.path = [] then [47] else upSlash R.path)) (c1 : Chain w (some ⟨sb, 0, none⟩) [S (R.scheme ++ [58])]) (c2 : Chain w (some ⟨ab, 0, none⟩) aus) (c3 : Chain w pa pas) (c4 : Chain w qu qus) (c5 : Above w di ps.tail (some ⟨ab, 0, none⟩) aus) :
    BaseOK 2000010 w R sb ab pa qu di (!ps.isEmpty) [S (R.scheme ++ [58])] aus pas qus ps.tail := by
  have hs0 : flat [S (R.scheme ++ [58])] = R.scheme ++ [58] := by simp [flat, S_data]
  have hal : (flat aus).length ≤ R.scheme.length + R.authority.length + 3 := by rw [h1.1]; cases R.ha <;> simp <;> omega
  refine { sc := c1, scf := hs0, au := c2, auf := by rw [hs0]; exact h1.1, ne := h1.2.1, eq := h1.2.2, pa := c3, paf := h2, qu := c4, quf := h3, di := c5, good := hg.tail, mer := ?_, roo := ?_, len := ?_, dlen := ?_ }
  · intro rp
    rw [mergeNew R ps hg h4 rp]
    cases ps <;> rfl
  · cases ps with
    | nil => exact .inl rfl
    | cons _ _ => exact .inr rfl
  · rw [h3, h2]; cases R.hq <;> simp <;> omega
  · rw [flat_app, List.length_append]
    have h5 : (flat ps.tail).length ≤ (flat ps).length := by cases ps with
      | nil => exact Nat.le_refl _
      | cons t ts => simp [flat]
    have h6 := RD_len [] (if R.ha = true ∧ R.path = [] then [47] else upSlash R.path)
    have h7 := upSlash_len R.path
    rw [← h4] at h6
    split at h6 <;> simp at h6 <;> omega

set_option maxRecDepth 1000000 in
set_option maxHeartbeats 1000000 in
theorem newBase_any (s : ByteArray) (hs : s.size ≤ 2000000) (w : World) (hm : MX w) :
    Calls Try.prog 19 #[.string s] w fun e w' => ∃ sb ab pa qu di ro ef scs aus pas qus ds, e = .returned (.agg (baseCells (some ⟨sb, 0, none⟩) (some ⟨ab, 0, none⟩) pa qu di ro ef)) ∧ BaseOK 2000010 w' (parse s.data.toList) sb ab pa qu di ro scs aus pas qus ds ∧ Below w.heap.size w w' := by
  have hlen := parse_len s.data.toList
  rw [blen] at hlen
  have hsp := fun w hm => split_any s (by omega) w hm
  generalize parse s.data.toList = R at *
  simp only [refCells] at hsp
  have z0 : (S R.scheme).size ≤ 2000000 := by rw [S_size]; omega
  have z1 : (S R.authority).size ≤ 2000000 := by rw [S_size]; omega
  have z2 : (S R.path).size ≤ 2000000 := by rw [S_size]; omega
  have z3 : (S R.query).size ≤ 2000000 := by rw [S_size]; omega
  have hlen' : Hid (R.scheme.length + R.authority.length + R.path.length + R.query.length ≤ 2000000) := by show _ ≤ _; omega
  clear hlen
  go_enter Try.func19, Try.ntmps19
  go_upto_region 3 with (first | (go_at_call 33; refine (hsp _ ?_).mono ?_; (exact hm.below ((Below.refl _ _).alloc (Nat.le_refl _) _) hm.pos); rintro e w1 ⟨rfl, hb1⟩) | (go_at_call 28; refine (extend_any none _ 0 _ (.inl ⟨rfl, rfl⟩) (by omega) ?_).mono ?_; (rw [app_size]; show _ + 1 ≤ _; omega); rintro e w2 ⟨rfl, rfl⟩))
  have hb1' : Below (w.heap.size + 1) (w.alloc (.cells zB 33)) w1 := by
    have hz : (w.alloc (.cells zB 33)).heap.size = w.heap.size + 1 := by simp
    rw [← hz]; exact hb1
  have k0 : Blk w1 w.heap.size zB 33 := (Blk.new w zB 33).below hb1' (by omega)
  have k3 : Below w.heap.size w w1 := ((Below.refl _ _).alloc (Nat.le_refl _) _).trans (hb1'.mono (by omega))
  have k0l := k0.lt
  clear hb1 hb1' hsp
  generalize hB : w.heap.size = B at *
  have HBB : Hid (w.heap.size = B) := hB
  clear hB
  go_cut [3, 4] (fun s3 s4 wx => ∃ b1 b2 sb, s3 = .pointer (some ⟨b1, 0, none⟩) ∧ s4 = .pointer (some ⟨b2, 0, none⟩) ∧ NB w B b1 b2 R (some ⟨sb, 0, none⟩) (some ⟨sb, 0, none⟩) none none wx ∧ Chain wx (some ⟨sb, 0, none⟩) [S (R.scheme ++ [58])])
  case first =>
    go_wp2
    go_meet
    rw [show S R.scheme ++ (ByteArray.mk #[58]) = S (R.scheme ++ [58]) from S_snoc _ [58]]
    refine ⟨w1.heap.size, w1.heap.size + 1 + 1, w1.heap.size + 1, rfl, rfl, ⟨((Blk.new w1 _ 48).alloc _).alloc _, ?_, ((k0.alloc _).alloc _).alloc _, ((k3.alloc (by omega) _).alloc (by simp; omega) _).alloc (by simp; omega) _, k0l, by omega, by omega⟩, ?_⟩
    · have hz : ∀ o1 o2, ((w1.alloc o1).alloc o2).heap.size = w1.heap.size + 1 + 1 := by intro o1 o2; simp
      rw [← hz]; exact Blk.new _ _ 33
    · have hz : ∀ o1, (w1.alloc o1).heap.size = w1.heap.size + 1 := by intro o1; simp
      rw [← hz]
      refine (Kp.alloc (Kp.refl _) _).chain (chain_new (ts := []) rfl _ _ ?_)
      rw [S_size, S_size]; simp [flat]
  case rest =>
    obtain ⟨b1, b2, sb, rfl, rfl, ⟨k1, k2, k0', k3', hB1, hB2, h12⟩, hsc⟩ := hcut
    clear k0 k3 k0l
    obtain ⟨r0, r1, r2, r3, r4, r5, r6, r7, r8⟩ := refAll k1
    obtain ⟨d0, d1, d2, d3, d4, d5, d6, d7⟩ := baseAll k2
    go_upto_if 18 with fail
    have hau0 : flat [S (R.scheme ++ [58])] = R.scheme ++ [58] := by simp [flat, S_data]
    go_cut [] (fun wx => ∃ ab aus, NB w B b1 b2 R (some ⟨sb, 0, none⟩) (some ⟨ab, 0, none⟩) none none wx ∧ Chain wx (some ⟨sb, 0, none⟩) [S (R.scheme ++ [58])] ∧ Chain wx (some ⟨ab, 0, none⟩) aus ∧ flat aus = R.scheme ++ [58] ++ (if R.ha then [47, 47] ++ R.authority else []) ∧ (R.ha = true → ab ≠ sb) ∧ (R.ha = false → ab = sb))
    case first =>
      cases hha : R.ha with
      | false =>
        go_wp2
        go_meet
        exact ⟨sb, _, ⟨k1, k2, k0', k3', hB1, hB2, h12⟩, hsc, hsc, by rw [hau0, hha]; simp, by simp [hha], by simp [hha]⟩
      | true =>
        have hex := fun w h => extend_ch (some ⟨sb, 0, none⟩) [S (R.scheme ++ [58])] (ByteArray.mk #[47, 47] ++ S R.authority) w h (by rw [hau0]; have := hlen'.out; simp; omega) (by rw [app_size]; show 2 + _ ≤ _; omega)
        have k1l := k1.lt
        have k2l := k2.lt
        have k0l := k0'.lt
        go_wp2_with (first | (go_at_call 28; refine (hex _ hsc).mono ?_; rintro e w2 ⟨rfl, hch, hb2, hz2⟩; have e0 := (baseAll (k2.below hb2 k2l)); obtain ⟨e0, e1, e2, e3, e4, e5, e6, e7⟩ := e0))
        go_meet
        obtain ⟨n1, n2, n3⟩ := NB.step ⟨k1, k2, k0', k3', hB1, hB2, h12⟩ hb2 1 (.pointer (some ⟨wc.heap.size, 0, none⟩)) rfl
        exact ⟨wc.heap.size, _, n1, n2.chain hsc, n3.chain hch, by rw [flat, hau0, hha]; simp [S_data], fun _ => by have := hsc.lt; omega, by simp [hha]⟩
    case rest =>
      clear k1 k2 k0' k3' d0 d1 d2 d3 d4 d5 d6 d7 r0 r1 r2 r3 r4 r5 r6 r7 r8 hsc hau0 hB1 hB2 h12
      obtain ⟨ab, aus, hNB, hsc, hau, hauf, hne, heq⟩ := hcut
      have HAUF : Hid (flat aus = R.scheme ++ [58] ++ (if R.ha then [47, 47] ++ R.authority else []) ∧ (R.ha = true → ab ≠ sb) ∧ (R.ha = false → ab = sb)) := ⟨hauf, hne, heq⟩
      have haul : (flat aus).length ≤ 2000003 := by rw [hauf]; have := hlen'.out; cases R.ha <;> simp <;> omega
      clear hauf hne heq
      obtain ⟨k1, k2, _⟩ := id hNB
      obtain ⟨r0, r1, r2, r3, r4, r5, r6, r7, r8⟩ := refAll k1
      obtain ⟨d0, d1, d2, d3, d4, d5, d6, d7⟩ := baseAll k2
      clear k1 k2
      go_upto_region 7 with fail
      obtain ⟨n1, n2, n3⟩ := NB.step hNB (Below.refl _ _) 2 (.pointer (some ⟨ab, 0, none⟩)) (sc' := some ⟨sb, 0, none⟩) (au' := some ⟨ab, 0, none⟩) (pa' := some ⟨ab, 0, none⟩) (qu' := none) rfl
      replace hsc := n2.chain hsc
      replace hau := n2.chain hau
      clear d0 d1 d2 d3 d4 d5 d6 d7 r0 r1 r2 r3 r4 r5 r6 r7 r8 hNB n2 n3
      generalize wc.setCell ⟨b2, 2, none⟩ (.pointer (some ⟨ab, 0, none⟩)) = wd at *
      obtain ⟨k1, k2, _⟩ := id n1
      obtain ⟨r0, r1, r2, r3, r4, r5, r6, r7, r8⟩ := refAll k1
      obtain ⟨d0, d1, d2, d3, d4, d5, d6, d7⟩ := baseAll k2
      have k2l := k2.lt
      obtain ⟨pe, HPE⟩ : ∃ pe : Bool, Hid (pe = decide (R.path = [])) := ⟨_, rfl⟩
      have pt : ((S R.path).toList == []) = pe := by rw [HPE.out, ByteArray.toList_eq, S_data]; cases R.path <;> rfl
      have pt2 : (S R.path).toList.isEmpty = pe := by rw [HPE.out, ByteArray.toList_eq, S_data]; cases R.path <;> rfl
      go_upto_if 31 with fail
      go_cut [] (fun wx => ∃ pa pas, NB w B b1 b2 R (some ⟨sb, 0, none⟩) (some ⟨ab, 0, none⟩) pa none wx ∧ Chain wx (some ⟨sb, 0, none⟩) [S (R.scheme ++ [58])] ∧ Chain wx (some ⟨ab, 0, none⟩) aus ∧ Chain wx pa pas ∧ flat pas = flat aus ++ R.path)
      case first =>
        cases pe with
        | true =>
          have HP : Hid (R.path = []) := by have h := HPE.out; show _ = _; simpa using h.symm
          go_wp2
          go_meet
          exact ⟨_, _, n1, hsc, hau, hau, by rw [HP.out]; simp⟩
        | false =>
          have hex := fun w h => extend_ch (some ⟨ab, 0, none⟩) aus (S R.path) w h (by omega) (by omega)
          go_wp2_with (first | (go_at_call 28; refine (hex _ hau).mono ?_; rintro e w2 ⟨rfl, hch, hb2, hz2⟩; have e0 := (baseAll (k2.below hb2 k2l)); obtain ⟨e0, e1, e2, e3, e4, e5, e6, e7⟩ := e0))
          go_meet
          obtain ⟨m1, m2, m3⟩ := NB.step n1 hb2 2 (.pointer (some ⟨wd.heap.size, 0, none⟩)) (sc' := some ⟨sb, 0, none⟩) (au' := some ⟨ab, 0, none⟩) (pa' := some ⟨wd.heap.size, 0, none⟩) (qu' := none) rfl
          exact ⟨_, _, m1, m2.chain hsc, m2.chain hau, m3.chain hch, rfl⟩
      case rest =>
        clear k1 k2 d0 d1 d2 d3 d4 d5 d6 d7 r0 r1 r2 r3 r4 r5 r6 r7 r8 hsc hau n1 k2l pt pt2
        obtain ⟨pa, pas, hNB, hsc, hau, hpa, hpaf⟩ := hcut
        have HPAF : Hid (flat pas = flat aus ++ R.path) := hpaf
        have hpal : (flat pas).length ≤ 4000003 := by rw [hpaf, List.length_append]; have := hlen'.out; omega
        clear hpaf
        obtain ⟨k1, k2, _⟩ := id hNB
        obtain ⟨r0, r1, r2, r3, r4, r5, r6, r7, r8⟩ := refAll k1
        obtain ⟨d0, d1, d2, d3, d4, d5, d6, d7⟩ := baseAll k2
        clear k1 k2
        go_upto_region 10 with fail
        obtain ⟨n1, n2, n3⟩ := NB.step hNB (Below.refl _ _) 3 (.pointer pa) (sc' := some ⟨sb, 0, none⟩) (au' := some ⟨ab, 0, none⟩) (pa' := pa) (qu' := pa) rfl
        replace hsc := n2.chain hsc
        replace hau := n2.chain hau
        replace hpa := n2.chain hpa
        clear d0 d1 d2 d3 d4 d5 d6 d7 r0 r1 r2 r3 r4 r5 r6 r7 r8 hNB n2 n3
        generalize wc.setCell ⟨b2, 3, none⟩ (.pointer pa) = we at *
        obtain ⟨k1, k2, _⟩ := id n1
        obtain ⟨r0, r1, r2, r3, r4, r5, r6, r7, r8⟩ := refAll k1
        obtain ⟨d0, d1, d2, d3, d4, d5, d6, d7⟩ := baseAll k2
        have k2l := k2.lt
        go_upto_if 42 with fail
        go_cut [] (fun wx => ∃ qu qus, NB w B b1 b2 R (some ⟨sb, 0, none⟩) (some ⟨ab, 0, none⟩) pa qu wx ∧ Chain wx (some ⟨sb, 0, none⟩) [S (R.scheme ++ [58])] ∧ Chain wx (some ⟨ab, 0, none⟩) aus ∧ Chain wx pa pas ∧ Chain wx qu qus ∧ flat qus = flat pas ++ (if R.hq then 63 :: R.query else []))
        case first =>
          cases hq : R.hq with
          | false =>
            go_wp2
            go_meet
            exact ⟨_, _, n1, hsc, hau, hpa, hpa, by rw [hq]; simp⟩
          | true =>
            have hex := fun w h => extend_ch pa pas (ByteArray.mk #[63] ++ S R.query) w h (by omega) (by rw [app_size]; show 1 + _ ≤ _; omega)
            go_wp2_with (first | (go_at_call 28; refine (hex _ hpa).mono ?_; rintro e w2 ⟨rfl, hch, hb2, hz2⟩; have e0 := (baseAll (k2.below hb2 k2l)); obtain ⟨e0, e1, e2, e3, e4, e5, e6, e7⟩ := e0))
            go_meet
            obtain ⟨m1, m2, m3⟩ := NB.step n1 hb2 3 (.pointer (some ⟨we.heap.size, 0, none⟩)) (sc' := some ⟨sb, 0, none⟩) (au' := some ⟨ab, 0, none⟩) (pa' := pa) (qu' := some ⟨we.heap.size, 0, none⟩) rfl
            exact ⟨_, _, m1, m2.chain hsc, m2.chain hau, m2.chain hpa, m3.chain hch, by rw [flat, hq]; simp [S_data]⟩
        case rest =>
          clear k1 k2 d0 d1 d2 d3 d4 d5 d6 d7 r0 r1 r2 r3 r4 r5 r6 r7 r8 hsc hau hpa n1 k2l
          obtain ⟨qu, qus, hNB, hsc, hau, hpa, hqu, hquf⟩ := hcut
          have HQUF : Hid (flat qus = flat pas ++ (if R.hq then 63 :: R.query else [])) := hquf
          clear hquf
          obtain ⟨k1, k2, _⟩ := id hNB
          obtain ⟨r0, r1, r2, r3, r4, r5, r6, r7, r8⟩ := refAll k1
          obtain ⟨d0, d1, d2, d3, d4, d5, d6, d7⟩ := baseAll k2
          clear k1 k2
          go_upto_region 12 with fail
          obtain ⟨kk, hk1, hk2, hk3⟩ := last_up R.path (by have := hlen'.out; omega)
          have hli := fun w => Try.strings_LastIndexByte (S R.path) 47 (by omega) w
          rw [hk1] at hli
          have HK : Hid (R.path.take kk = upSlash R.path) := hk3
          have hkl : kk ≤ 2000000 := by have := hlen'.out; omega
          have hkz : (kk : Int) ≤ ((S R.path).size : Int) := by rw [S_size]; omega
          have hw1 : IntKind.i64.wrap ((kk : Int) - 1 + 1) = (kk : Int) := by rw [Int.sub_add_cancel]; exact wrap_small _ (by omega) (by omega)
          have hw2 : IntKind.i64.wrap (kk : Int) = (kk : Int) := wrap_small _ (by omega) (by omega)
          clear hk1 hk2 hk3
          go_quiet ((go_at_call 34; exact (hli _).mono (fun _ _ h => ⟨h.1, _, h.2⟩)))
          clear hw1 hw2 hli hkz
          have hpt : ((S R.path).toList == []) = pe := by rw [HPE.out, ByteArray.toList_eq, S_data]; cases R.path <;> rfl
          have hpt2 : (S R.path).toList.isEmpty = pe := by rw [HPE.out, ByteArray.toList_eq, S_data]; cases R.path <;> rfl
          go_upto_region 13 with fail
          go_cut [63] (fun b wx => b = .bool (R.ha && pe) ∧ wc.drewN nq = wx)
          case first =>
            cases hha : R.ha with
            | false =>
              go_wp2
              go_meet
              exact ⟨by rw [hha]; rfl, rfl⟩
            | true =>
              go_wp2
              go_meet
              exact ⟨by rw [hha]; rfl, rfl⟩
          case rest =>
            obtain ⟨rfl, rfl⟩ := hcut
            obtain ⟨J, HJ⟩ : ∃ J, Hid (J = if R.ha = true ∧ R.path = [] then [47] else upSlash R.path) := ⟨_, rfl⟩
            go_upto_if 63 with fail
            go_cut [5] (fun s5 wx => s5 = .string (S J) ∧ wc.drewN nq = wx)
            case first =>
              cases hb : (R.ha && pe) with
              | true =>
                have hj : Hid (J = [47]) := by
                  have h1 := HJ.out; have h2 := HPE.out
                  simp at hb
                  obtain ⟨ha, hp⟩ := hb
                  subst hp
                  have hp' : R.path = [] := by simpa using h2.symm
                  rw [if_pos ⟨ha, hp'⟩] at h1; exact h1
                go_wp2
                go_meet
                exact ⟨by rw [hj.out]; rfl, rfl⟩
              | false =>
                have hj : Hid (J = upSlash R.path) := by
                  have h1 := HJ.out; have h2 := HPE.out
                  rw [if_neg (by rintro ⟨ha, hp⟩; rw [ha, h2, hp] at hb; simp at hb)] at h1; exact h1
                go_wp2
                go_meet
                exact ⟨str_eq (by rw [ext_take, S_data, HK.out, hj.out]), rfl⟩
            case rest =>
              obtain ⟨rfl, rfl⟩ := hcut
              clear hpt hpt2 HK hkl r0 r1 r2 r3 r4 r5 r6 r7 r8 d0 d1 d2 d3 d4 d5 d6 d7
              have kn : Kp wc (wc.drewN nq) := (Kp.refl wc).drewN nq
              replace hNB : NB w B b1 b2 R (some ⟨sb, 0, none⟩) (some ⟨ab, 0, none⟩) pa qu (wc.drewN nq) := hNB.drewN nq
              replace hsc := kn.chain hsc
              replace hau := kn.chain hau
              replace hpa := kn.chain hpa
              replace hqu := kn.chain hqu
              clear kn
              generalize wc.drewN nq = wf at *
              obtain ⟨k1, k2, k0, k3, hB1, hB2, h12⟩ := id hNB
              obtain ⟨d0, d1, d2, d3, d4, d5, d6, d7⟩ := baseAll k2
              have k1l := k1.lt
              have k2l := k2.lt
              have k0l := k0.lt
              clear k1 k2 k0 k3
              go_upto_region 16 with fail
              have hD : Dot (wf.alloc (.cells #[.pointer (some ⟨ab, 0, none⟩), .pointer (some ⟨ab, 0, none⟩), .bool false] 41)) wf.heap.size (some ⟨ab, 0, none⟩) (some ⟨ab, 0, none⟩) false := Blk.new wf _ 41
              have kn : Kp wf (wf.alloc (.cells #[.pointer (some ⟨ab, 0, none⟩), .pointer (some ⟨ab, 0, none⟩), .bool false] 41)) := (Kp.refl wf).alloc _
              replace hNB := hNB.alloc (.cells #[.pointer (some ⟨ab, 0, none⟩), .pointer (some ⟨ab, 0, none⟩), .bool false] 41)
              replace hsc := kn.chain hsc
              replace hau := kn.chain hau
              replace hpa := kn.chain hpa
              replace hqu := kn.chain hqu
              clear kn d0 d1 d2 d3 d4 d5 d6 d7
              generalize wf.alloc (.cells #[.pointer (some ⟨ab, 0, none⟩), .pointer (some ⟨ab, 0, none⟩), .bool false] 41) = wg at *
              generalize wf.heap.size = g at *
              have hJl : J.length ≤ 2000001 := by rw [HJ.out]; split; simp; have := upSlash_len R.path; have := hlen'.out; omega
              have hrd := read_any g ab _ [] aus (S J) false wg hD ⟨rfl, hau⟩ trivial (.inl rfl) (by rw [S_size, List.nil_append]; omega)
              go_upto_region 17 with (first | (go_at_call 29; refine hrd.mono ?_; rintro e w5 ⟨rfl, kk5, ef5, ps5, hd5, ha5, hg5, hf5, hgr5⟩))
              have hgne : B < g ∧ b1 ≠ g ∧ b2 ≠ g := ⟨by omega, by omega, by omega⟩
              have kn := Kp.grown hgr5 hD.blk (by decide)
              replace hNB := hNB.grown hgr5 hgne.1 hgne.2.1 hgne.2.2
              replace hsc := kn.chain hsc
              replace hau := kn.chain hau
              replace hpa := kn.chain hpa
              replace hqu := kn.chain hqu
              have HF5 : Hid (flat ps5 = RD [] J) := hf5
              have hfl5 : (flat ps5).length ≤ 2000001 := by rw [hf5]; have h := RD_len (flat []) (S J).data.toList; rw [S_data] at h; show (RD (flat []) J).length ≤ _; simp [flat] at h ⊢; omega
              clear kn hD hrd hgr5 hf5 k1l k2l k0l
              obtain ⟨c0, c1, c2, c3⟩ := hd5.cells
              obtain ⟨k1, k2, k0, k3, hB1', hB2', h12'⟩ := id hNB
              obtain ⟨d0, d1, d2, d3, d4, d5, d6, d7⟩ := baseAll k2
              obtain ⟨y0, y1, y2, y3, y4, y5, y6, y7⟩ := baseAll (show Blk w5 B (baseCells none none none none none false false) 33 from k0)
              clear hB1' hB2' h12'
              cases ps5 with
              | nil =>
                obtain ⟨rfl, _⟩ := ha5
                have e := neq_same w5 (some ⟨ab, 0, none⟩)
                go_wp2
                go_region
                all_goals go_wp2
                have hb2 : B ≠ b2 := by omega
                have q2 := k2.set 4 (.pointer (some ⟨ab, 0, none⟩))
                have q0 := (k0.setOther ⟨b2, 4, none⟩ (Ne.symm hb2) (.pointer (some ⟨ab, 0, none⟩))).setOther ⟨b2, 6, none⟩ (Ne.symm hb2) (.bool ef5)
                have qk := ((Kp.refl w5).set k2 (by decide) 4 (.pointer (some ⟨ab, 0, none⟩))).set q2 (by decide) 6 (.bool ef5)
                have q3 := (k3.setCell (p := ⟨b2, 4, none⟩) (Nat.le_of_lt hB2) (.pointer (some ⟨ab, 0, none⟩))).setCell (p := ⟨b2, 6, none⟩) (Nat.le_of_lt hB2) (.bool ef5)
                obtain ⟨f1, f2⟩ := fin7 q0 rfl (.pointer (some ⟨sb, 0, none⟩)) (.pointer (some ⟨ab, 0, none⟩)) (.pointer pa) (.pointer qu) (.pointer (some ⟨ab, 0, none⟩)) (.bool false) (.bool ef5)
                have f3 := below7 q3 (.pointer (some ⟨sb, 0, none⟩)) (.pointer (some ⟨ab, 0, none⟩)) (.pointer pa) (.pointer qu) (.pointer (some ⟨ab, 0, none⟩)) (.bool false) (.bool ef5)
                refine ret19 (B := B) (sc := some ⟨sb, 0, none⟩) (au := some ⟨ab, 0, none⟩) (pa := pa) (qu := qu) (di := some ⟨ab, 0, none⟩) (ro := false) (ef := ef5) rfl rfl f1.drew ?_
                refine ⟨sb, ab, pa, qu, some ⟨ab, 0, none⟩, false, ef5, [S (R.scheme ++ [58])], aus, pas, qus, [], rfl, ?_, by rw [HBB.out]; exact f3.drew⟩
                exact BaseOK.keep (newOK R sb ab pa qu _ _ aus pas qus [] trivial hlen'.out HAUF.out HPAF.out HQUF.out (by have h := HF5.out; rw [HJ.out] at h; exact h) hsc hau hpa hqu ⟨rfl, hau⟩) ((qk.trans f2).drew)
              | cons t ts =>
                obtain ⟨qf, sf, nf, hfp⟩ := floor_piece hau
                have ha5' := ha5
                obtain ⟨tb, q, rfl, hpc, hlt, _⟩ := ha5
                have htne : tb ≠ ab := by have := ha5'.lt rfl; simp at this; omega
                obtain ⟨j54, hj, hj0⟩ := info54'
                have e := run_neq_ptr_other w5 (a := ⟨tb, 0, none⟩) (b := ⟨ab, 0, none⟩) Try.underlying31 hj hj0 (by intro e; exact htne (congrArg Addr.block e)) hpc hfp
                have hpop := pop_ab g ab _ (t :: ts) aus ef5 w5 hd5 ha5'
                clear hj hj0 hpc hfp hlt
                go_wp2_with (first | (go_at_call 35; refine hpop.mono ?_; rintro e w6 ⟨rfl, k6, hd6, ha6, hgr6⟩; have n6 := hNB.grown hgr6 hgne.1 hgne.2.1 hgne.2.2; obtain ⟨_, p2, p0, p3, _, _, _⟩ := id n6; obtain ⟨i0, i1, i2, i3, i4, i5, i6, i7⟩ := baseAll p2; obtain ⟨l0, l1, l2, l3, l4, l5, l6, l7⟩ := baseAll (show Blk w6 B (baseCells none none none none none false false) 33 from p0); obtain ⟨g0, g1, g2, g3⟩ := hd6.cells))
                go_region
                all_goals go_wp2
                have hb2 : B ≠ b2 := by omega
                have kn := Kp.grown hgr6 hd5.blk (by decide)
                have q5 := p2.set 5 (.bool true)
                have q2 := q5.set 4 (.pointer k6)
                have q0 := ((p0.setOther ⟨b2, 5, none⟩ (Ne.symm hb2) (.bool true)).setOther ⟨b2, 4, none⟩ (Ne.symm hb2) (.pointer k6)).setOther ⟨b2, 6, none⟩ (Ne.symm hb2) (.bool ef5)
                have qk := (((Kp.refl w6).set p2 (by decide) 5 (.bool true)).set q5 (by decide) 4 (.pointer k6)).set q2 (by decide) 6 (.bool ef5)
                have q3 := ((p3.setCell (p := ⟨b2, 5, none⟩) (Nat.le_of_lt hB2) (.bool true)).setCell (p := ⟨b2, 4, none⟩) (Nat.le_of_lt hB2) (.pointer k6)).setCell (p := ⟨b2, 6, none⟩) (Nat.le_of_lt hB2) (.bool ef5)
                obtain ⟨f1, f2⟩ := fin7 q0 rfl (.pointer (some ⟨sb, 0, none⟩)) (.pointer (some ⟨ab, 0, none⟩)) (.pointer pa) (.pointer qu) (.pointer k6) (.bool true) (.bool ef5)
                have f3 := below7 q3 (.pointer (some ⟨sb, 0, none⟩)) (.pointer (some ⟨ab, 0, none⟩)) (.pointer pa) (.pointer qu) (.pointer k6) (.bool true) (.bool ef5)
                refine ret19 (B := B) (sc := some ⟨sb, 0, none⟩) (au := some ⟨ab, 0, none⟩) (pa := pa) (qu := qu) (di := k6) (ro := true) (ef := ef5) rfl rfl f1.drew ?_
                refine ⟨sb, ab, pa, qu, k6, true, ef5, [S (R.scheme ++ [58])], aus, pas, qus, ts, rfl, ?_, by rw [HBB.out]; exact f3.drew⟩
                exact BaseOK.keep (newOK R sb ab pa qu _ _ aus pas qus (t :: ts) hg5 hlen'.out HAUF.out HPAF.out HQUF.out (by have h := HF5.out; rw [HJ.out] at h; exact h) (kn.chain hsc) (kn.chain hau) (kn.chain hpa) (kn.chain hqu) ha6) ((qk.trans f2).drew)
end Go.Proofs.Qxb6000768a
