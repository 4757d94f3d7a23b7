import Derived.Test.Qxb6000880aW6
set_option linter.unusedSimpArgs false
set_option linter.unusedVariables false
namespace Go.Proofs.Qxb6000880a
open Go.RowKit

def kf (gT cT : Nat) (f : F) : Value := .slice (some ⟨gT, f.ko, none⟩) f.kl (cT - f.ko)
def sf (f : F) : Value := .int .i64 (f.st : Int)
def ef (f : F) : Value := .int .i64 (f.en : Int)
def qf (f : F) : Value := .int .u8 (f.q.toNat : Int)
def bf (f : F) : Value := .bool f.bare

theorem own_ne {α β : Type} {f : α → Value} {f' : β → Value} {w : World} {B B' : Nat} {e e' : TypeId} {v v' : Value} {xs : List α} {ys : List β} (h : OW f w B e v xs) (h' : OW f' w B' e' v' ys) (hne : e ≠ e') : v.ownBlock = none ∨ v.ownBlock ≠ v'.ownBlock := by
  rcases h.2 with ⟨rfl, _⟩ | ⟨g, cap, cur, rfl, hb, hg, _⟩
  · exact .inl rfl
  · right
    intro e9
    rcases h'.2 with ⟨rfl, _⟩ | ⟨g', cap', cur', rfl, hb', hg', _⟩
    · simp [Value.ownBlock] at e9
    · simp [Value.ownBlock] at e9
      subst e9
      rw [hg] at hg'
      simp at hg'
      exact hne hg'.2
def dis (v v' : Value) : Prop := ∀ k, v.ownBlock = some k → v'.ownBlock ≠ some k
theorem dis_ne {v v' : Value} (h : dis v v') : v.ownBlock = none ∨ v.ownBlock ≠ v'.ownBlock := by
  cases hv : v.ownBlock with
  | none => exact .inl rfl
  | some k => right; intro e; exact h k hv e.symm
theorem dis_symm {v v' : Value} (h : dis v v') : dis v' v := fun k hk e => h k e hk

/-- the five rows -/
def S5 (gT cT : Nat) (wl : World) (B : Nat) (wx : World) (v1 v2 v3 v4 v5 : Value) (l1 l2 l3 l4 l5 : List F) : Prop :=
  OW (kf gT cT) wx B 22 v1 l1 ∧ OW sf wx B 3 v2 l2 ∧ OW ef wx B 3 v3 l3 ∧ OW qf wx B 5 v4 l4 ∧ OW bf wx B 4 v5 l5 ∧ dis v2 v3 ∧ Below B wl wx ∧ B ≤ wx.heap.size

section
variable {gT cT : Nat} {wl : World} {B : Nat} {wx w' : World} {v1 v2 v3 v4 v5 v' : Value} {l1 l2 l3 l4 l5 : List F} {f : F}
theorem S5.alloc (h : S5 gT cT wl B wx v1 v2 v3 v4 v5 l1 l2 l3 l4 l5) (o : Obj) : S5 gT cT wl B (wx.alloc o) v1 v2 v3 v4 v5 l1 l2 l3 l4 l5 := by
  obtain ⟨h1, h2, h3, h4, h5, h6, h7, h8⟩ := h
  exact ⟨h1.alloc o, h2.alloc o, h3.alloc o, h4.alloc o, h5.alloc o, h6, h7.alloc h8 o, by simp; omega⟩
theorem S5.p1 (h : S5 gT cT wl B wx v1 v2 v3 v4 v5 l1 l2 l3 l4 l5) (ho : OW (kf gT cT) w' B 22 v' (l1 ++ [f])) (hg : wx.grownBy w' v1.ownBlock) : S5 gT cT wl B w' v' v2 v3 v4 v5 (l1 ++ [f]) l2 l3 l4 l5 := by
  obtain ⟨h1, h2, h3, h4, h5, h6, h7, h8⟩ := h
  exact ⟨ho, World.ownsRow.kept h2 hg (own_ne h2 h1 (by decide)), World.ownsRow.kept h3 hg (own_ne h3 h1 (by decide)), World.ownsRow.kept h4 hg (own_ne h4 h1 (by decide)), World.ownsRow.kept h5 hg (own_ne h5 h1 (by decide)), h6, h7.trans (own_below h1 h8 hg), Nat.le_trans h8 hg.size⟩
theorem S5.p4 (h : S5 gT cT wl B wx v1 v2 v3 v4 v5 l1 l2 l3 l4 l5) (ho : OW qf w' B 5 v' (l4 ++ [f])) (hg : wx.grownBy w' v4.ownBlock) : S5 gT cT wl B w' v1 v2 v3 v' v5 l1 l2 l3 (l4 ++ [f]) l5 := by
  obtain ⟨h1, h2, h3, h4, h5, h6, h7, h8⟩ := h
  exact ⟨World.ownsRow.kept h1 hg (own_ne h1 h4 (by decide)), World.ownsRow.kept h2 hg (own_ne h2 h4 (by decide)), World.ownsRow.kept h3 hg (own_ne h3 h4 (by decide)), ho, World.ownsRow.kept h5 hg (own_ne h5 h4 (by decide)), h6, h7.trans (own_below h4 h8 hg), Nat.le_trans h8 hg.size⟩
theorem S5.p5 (h : S5 gT cT wl B wx v1 v2 v3 v4 v5 l1 l2 l3 l4 l5) (ho : OW bf w' B 4 v' (l5 ++ [f])) (hg : wx.grownBy w' v5.ownBlock) : S5 gT cT wl B w' v1 v2 v3 v4 v' l1 l2 l3 l4 (l5 ++ [f]) := by
  obtain ⟨h1, h2, h3, h4, h5, h6, h7, h8⟩ := h
  exact ⟨World.ownsRow.kept h1 hg (own_ne h1 h5 (by decide)), World.ownsRow.kept h2 hg (own_ne h2 h5 (by decide)), World.ownsRow.kept h3 hg (own_ne h3 h5 (by decide)), World.ownsRow.kept h4 hg (own_ne h4 h5 (by decide)), ho, h6, h7.trans (own_below h5 h8 hg), Nat.le_trans h8 hg.size⟩
theorem S5.p2 (h : S5 gT cT wl B wx v1 v2 v3 v4 v5 l1 l2 l3 l4 l5) (ho : OW sf w' B 3 v' (l2 ++ [f])) (hg : wx.grownBy w' v2.ownBlock) (hf : v'.ownBlock = v2.ownBlock ∨ ∃ k, v'.ownBlock = some k ∧ wx.heap.size ≤ k) : S5 gT cT wl B w' v1 v' v3 v4 v5 l1 (l2 ++ [f]) l3 l4 l5 := by
  obtain ⟨h1, h2, h3, h4, h5, h6, h7, h8⟩ := h
  refine ⟨World.ownsRow.kept h1 hg (own_ne h1 h2 (by decide)), ho, World.ownsRow.kept h3 hg (dis_ne (dis_symm h6)), World.ownsRow.kept h4 hg (own_ne h4 h2 (by decide)), World.ownsRow.kept h5 hg (own_ne h5 h2 (by decide)), ?_, h7.trans (own_below h2 h8 hg), Nat.le_trans h8 hg.size⟩
  intro k hk e
  rcases hf with hf | ⟨k', hf, hk'⟩
  · exact h6 k (hf ▸ hk) e
  · rw [hk] at hf
    have := (World.ownsRow.lt h3 k e).2
    simp at hf
    omega
theorem S5.p3 (h : S5 gT cT wl B wx v1 v2 v3 v4 v5 l1 l2 l3 l4 l5) (ho : OW ef w' B 3 v' (l3 ++ [f])) (hg : wx.grownBy w' v3.ownBlock) (hf : v'.ownBlock = v3.ownBlock ∨ ∃ k, v'.ownBlock = some k ∧ wx.heap.size ≤ k) : S5 gT cT wl B w' v1 v2 v' v4 v5 l1 l2 (l3 ++ [f]) l4 l5 := by
  obtain ⟨h1, h2, h3, h4, h5, h6, h7, h8⟩ := h
  refine ⟨World.ownsRow.kept h1 hg (own_ne h1 h3 (by decide)), World.ownsRow.kept h2 hg (dis_ne h6), ho, World.ownsRow.kept h4 hg (own_ne h4 h3 (by decide)), World.ownsRow.kept h5 hg (own_ne h5 h3 (by decide)), ?_, h7.trans (own_below h3 h8 hg), Nat.le_trans h8 hg.size⟩
  intro k hk e
  rcases hf with hf | ⟨k', hf, hk'⟩
  · exact h6 k hk (hf ▸ e)
  · rw [e] at hf
    have := (World.ownsRow.lt h2 k hk).2
    simp at hf
    omega
end

theorem results_tmp5 {fn : Func} {t u v x y : Tmp} (h : fn.results = #[.tmp t, .tmp u, .tmp v, .tmp x, .tmp y]) (tmps : Array Value) (P : Program) (w : World) :
    (results fn tmps).run P w = .ok (.tuple #[tmps.getD t undef, tmps.getD u undef, tmps.getD v undef, tmps.getD x undef, tmps.getD y undef]) w := by
  simp [results, h]

/-- the cells of the k-th attribute -/
theorem attr_cells {w : World} {B : Nat} {v : Value} {gT cT : Nat} {fs : List F} (h : w.ownsRow B 58 5 v fs.length (fs.flatMap (fcells gT cT))) (k : Nat) (hk : k < fs.length) : ∃ gA cA, v = .slice (some ⟨gA, 0, none⟩) fs.length cA ∧ gA < w.heap.size ∧
    (w.cell? ⟨gA, k * 5, none⟩ = some (kf gT cT fs[k]) ∧ w.cell? ⟨gA, k * 5 + 1, none⟩ = some (sf fs[k]) ∧ w.cell? ⟨gA, k * 5 + 2, none⟩ = some (ef fs[k]) ∧ w.cell? ⟨gA, k * 5 + 3, none⟩ = some (qf fs[k]) ∧ w.cell? ⟨gA, k * 5 + 4, none⟩ = some (bf fs[k])) := by
  have hc := h
  rcases h.2 with ⟨rfl, h3⟩ | ⟨g, cap, cur, rfl, hb, hg, _⟩
  · omega
  · refine ⟨g, cap, rfl, (Array.getElem?_eq_some_iff.1 hg).1, ?_⟩
    have hcell := World.ownsRow.cells hc (g := g) rfl
    have hl : ∀ ys : List F, (ys.flatMap (fcells gT cT)).length = ys.length * 5 := by
      intro ys
      induction ys with
      | nil => rfl
      | cons a t ih => simp only [List.flatMap_cons, List.length_append, ih, List.length_cons]; simp [fcells, acells]; omega
    have hget : ∀ j, j < 5 → (fs.flatMap (fcells gT cT))[k * 5 + j]? = (fcells gT cT fs[k])[j]? := by
      intro j hj
      have e : fs = fs.take k ++ fs[k] :: fs.drop (k + 1) := by rw [List.getElem_cons_drop, List.take_append_drop]
      have hlk : (fs.take k).length = k := by simp; omega
      conv => lhs; rw [e, List.flatMap_append, List.flatMap_cons]
      rw [List.getElem?_append_right (by rw [hl, hlk]; omega), hl, hlk, Nat.add_sub_cancel_left, List.getElem?_append_left (by simp [fcells, acells]; exact hj)]
    refine ⟨?_, ?_, ?_, ?_, ?_⟩
    · have := hcell (k * 5 + 0) _ (by rw [hget 0 (by omega)]; rfl); rw [add0] at this; exact this
    · have := hcell (k * 5 + 1) _ (by rw [hget 1 (by omega)]; rfl); rw [add0] at this; exact this
    · have := hcell (k * 5 + 2) _ (by rw [hget 2 (by omega)]; rfl); rw [add0] at this; exact this
    · have := hcell (k * 5 + 3) _ (by rw [hget 3 (by omega)]; rfl); rw [add0] at this; exact this
    · have := hcell (k * 5 + 4) _ (by rw [hget 4 (by omega)]; rfl); rw [add0] at this; exact this

set_option maxRecDepth 1000000 in
set_option maxHeartbeats 8000000 in
theorem zzScan_any (gT cT : Nat) (ats : List A) (hok : ∀ a ∈ ats, OKA a) (T : Bs) (hTe : T = tagOf ats) (w : World) (hT : TX w gT T) (hcT : T.length ≤ cT) (hl : T.length ≤ 10000000) :
    Calls Try.prog 23 #[.slice (some ⟨gT, 0, none⟩) T.length cT, .int .i64 2] w fun e w' => ∃ v1 v2 v3 v4 v5, e = .returned (.tuple #[v1, v2, v3, v4, v5]) ∧ RD (kf gT cT) w' v1 (found 2 ats) ∧ RD sf w' v2 (found 2 ats) ∧ RD ef w' v3 (found 2 ats) ∧ RD qf w' v4 (found 2 ats) ∧ RD bf w' v5 (found 2 ats) ∧ Below w.heap.size w w' := by
  have h30 := scanAttrs_any gT cT ats hok T hTe w hT hcT hl
  have hfl : ats.length = (found 2 ats).length := (found_len 2 ats).symm
  have hnl : (found 2 ats).length ≤ 10000000 := by
    rw [found_len]
    have h1 := rends_len ats
    have h2 : T.length = (rends ats).length + 3 := by rw [hTe]; simp [tagOf]
    omega
  rw [hfl] at h30
  generalize found 2 ats = fs at *
  clear hfl hok hTe hT
  go_enter Try.func23, Try.ntmps23
  go_upto_region 2 with (first | (go_at_call 30; refine h30.mono ?_; rintro e wl ⟨vA, rfl, hA, hbl⟩))
  have HAC : Hid (∀ k (hk : k < fs.length), ∃ gA cA, vA = .slice (some ⟨gA, 0, none⟩) fs.length cA ∧ ∀ W, Below wl.heap.size wl W →
    (W.cell? ⟨gA, k * 5, none⟩ = some (kf gT cT fs[k]) ∧ W.cell? ⟨gA, k * 5 + 1, none⟩ = some (sf fs[k]) ∧ W.cell? ⟨gA, k * 5 + 2, none⟩ = some (ef fs[k]) ∧ W.cell? ⟨gA, k * 5 + 3, none⟩ = some (qf fs[k]) ∧ W.cell? ⟨gA, k * 5 + 4, none⟩ = some (bf fs[k]))) := by
    intro k hk
    obtain ⟨gA, cA, e, hlt, c0, c1, c2, c3, c4⟩ := attr_cells hA k hk
    refine ⟨gA, cA, e, fun W hW => ⟨?_, ?_, ?_, ?_, ?_⟩⟩
    · rw [hW.cell (p := ⟨gA, k * 5, none⟩) hlt]; exact c0
    · rw [hW.cell (p := ⟨gA, k * 5 + 1, none⟩) hlt]; exact c1
    · rw [hW.cell (p := ⟨gA, k * 5 + 2, none⟩) hlt]; exact c2
    · rw [hW.cell (p := ⟨gA, k * 5 + 3, none⟩) hlt]; exact c3
    · rw [hW.cell (p := ⟨gA, k * 5 + 4, none⟩) hlt]; exact c4
  obtain ⟨aA, cA, hvA⟩ : ∃ a c, vA = .slice a fs.length c := by
    rcases hA.2 with ⟨rfl, h3⟩ | ⟨g, cap, cur, rfl, _⟩
    · exact ⟨none, 0, by rw [h3]⟩
    · exact ⟨_, _, rfl⟩
  subst hvA
  have HSB : Hid (w.heap.size ≤ wl.heap.size) := hbl.size
  clear hA h30
  go_wp2_with fail
  go_loopg [4, 5, 6, 7, 8, 10] fs.length (fun g v1 v2 v3 v4 v5 i wx => ∃ k : Nat, k + g = fs.length ∧ i = .int .i64 k ∧ S5 gT cT wl wl.heap.size wx v1 v2 v3 v4 v5 (fs.take k) (fs.take k) (fs.take k) (fs.take k) (fs.take k))
  case atStart => exact ⟨0, by omega, rfl, OW.nil _ _ _ _, OW.nil _ _ _ _, OW.nil _ _ _ _, OW.nil _ _ _ _, OW.nil _ _ _ _, fun k hk => by simp [Value.ownBlock] at hk, Below.refl _ _, Nat.le_refl _⟩
  case round =>
    obtain ⟨k, hkg, rfl, hS⟩ := hrel
    by_cases hlt : k < fs.length
    · obtain ⟨gA, cA', e, hcs⟩ := HAC.out k hlt
      simp only [Value.slice.injEq] at e
      obtain ⟨rfl, _, rfl⟩ := e
      have htk : fs.take (k + 1) = fs.take k ++ [fs[k]] := take_snoc fs k hlt
      have hlk : (fs.take k).length + 1 ≤ 100000000 := by simp; omega
      generalize fs[k] = f at *
      have HTK : Hid (fs.take (k + 1) = fs.take k ++ [f]) := htk
      clear htk
      obtain ⟨c0, c1, c2, c3, c4⟩ := hcs wr hS.2.2.2.2.2.2.1
      unfold kf at c0
      unfold sf at c1
      unfold ef at c2
      unfold qf at c3
      unfold bf at c4
      go_upto_region 6 with (first | (at_builtin; refine wpList_one (f := kf gT cT) t38 (by decide) rfl (.tmp 20) (.tmp 26) rfl wl.heap.size _ _ rfl (hS.1.alloc _) wr.heap.size 1 f rfl (by rw [(Blk.new wr _ 22).cell]; rfl) rfl hlk (hS.alloc _).2.2.2.2.2.2.2 ?_; intro v1' w1 ho1 hg1 hf1; have hS1 := (hS.alloc _).p1 ho1 hg1))
      clear hS ho1 hg1 hf1 c0 c1 c2 c3 c4
      obtain ⟨c0, c1, c2, c3, c4⟩ := hcs w1 hS1.2.2.2.2.2.2.1
      unfold kf at c0
      unfold sf at c1
      unfold ef at c2
      unfold qf at c3
      unfold bf at c4
      go_upto_region 7 with (first | (at_builtin; refine wpList_one (f := sf) t39 (by decide) rfl (.tmp 28) (.tmp 34) rfl wl.heap.size _ _ rfl (hS1.2.1.alloc _) w1.heap.size 1 f rfl (by rw [(Blk.new w1 _ 3).cell]; rfl) rfl hlk (hS1.alloc _).2.2.2.2.2.2.2 ?_; intro v2' w2 ho2 hg2 hf2; have hS2 := (hS1.alloc _).p2 ho2 hg2 hf2))
      clear hS1 ho2 hg2 hf2 c0 c1 c2 c3 c4
      obtain ⟨c0, c1, c2, c3, c4⟩ := hcs w2 hS2.2.2.2.2.2.2.1
      unfold kf at c0
      unfold sf at c1
      unfold ef at c2
      unfold qf at c3
      unfold bf at c4
      go_upto_region 8 with (first | (at_builtin; refine wpList_one (f := ef) t39 (by decide) rfl (.tmp 36) (.tmp 42) rfl wl.heap.size _ _ rfl (hS2.2.2.1.alloc _) w2.heap.size 1 f rfl (by rw [(Blk.new w2 _ 3).cell]; rfl) rfl hlk (hS2.alloc _).2.2.2.2.2.2.2 ?_; intro v3' w3 ho3 hg3 hf3; have hS3 := (hS2.alloc _).p3 ho3 hg3 hf3))
      clear hS2 ho3 hg3 hf3 c0 c1 c2 c3 c4
      obtain ⟨c0, c1, c2, c3, c4⟩ := hcs w3 hS3.2.2.2.2.2.2.1
      unfold kf at c0
      unfold sf at c1
      unfold ef at c2
      unfold qf at c3
      unfold bf at c4
      go_upto_region 9 with (first | (at_builtin; refine wpList_one (f := qf) t22 (by decide) rfl (.tmp 44) (.tmp 50) rfl wl.heap.size _ _ rfl (hS3.2.2.2.1.alloc _) w3.heap.size 1 f rfl (by rw [(Blk.new w3 _ 5).cell]; rfl) rfl hlk (hS3.alloc _).2.2.2.2.2.2.2 ?_; intro v4' w4 ho4 hg4 hf4; have hS4 := (hS3.alloc _).p4 ho4 hg4))
      clear hS3 ho4 hg4 hf4 c0 c1 c2 c3 c4
      obtain ⟨c0, c1, c2, c3, c4⟩ := hcs w4 hS4.2.2.2.2.2.2.1
      unfold kf at c0
      unfold sf at c1
      unfold ef at c2
      unfold qf at c3
      unfold bf at c4
      go_wp2_with (first | (at_builtin; refine wpList_one (f := bf) t34 (by decide) rfl (.tmp 52) (.tmp 58) rfl wl.heap.size _ _ rfl (hS4.2.2.2.2.1.alloc _) w4.heap.size 1 f rfl (by rw [(Blk.new w4 _ 4).cell]; rfl) rfl hlk (hS4.alloc _).2.2.2.2.2.2.2 ?_; intro v5' w5 ho5 hg5 hf5; have hS5 := (hS4.alloc _).p5 ho5 hg5))
      clear hS4 ho5 hg5 hf5 c0 c1 c2 c3 c4
      go_roundg (gk - 1)
      case measure => omega
      case rel => exact ⟨k + 1, by omega, by go_num, by rw [HTK.out]; exact hS5⟩
    · obtain rfl : k = fs.length := by omega
      rw [List.take_length] at hS
      go_wp2
      refine bodyPost_ret (results_tmp5 Try.results23 _ _ _) rfl ?_
      obtain ⟨h1, h2, h3, h4, h5, h6, h7, h8⟩ := hS
      exact ⟨_, _, _, _, _, rfl, h1.reads, h2.reads, h3.reads, h4.reads, h5.reads, hbl.trans (h7.mono HSB.out)⟩
end Go.Proofs.Qxb6000880a
