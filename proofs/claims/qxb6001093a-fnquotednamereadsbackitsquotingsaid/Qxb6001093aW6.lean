import Derived.Test.Qxb6001093aW5
set_option linter.unusedSimpArgs false
set_option linter.unusedVariables false
namespace Go.Proofs.Qxb6001093a
open Go.RowKit

theorem bel_drewN {B : Nat} {w w' : World} (h : Below B w w') {n : Nat} : Below B w (w'.drewN n) := ⟨h.os, h.tape, h.output, h.size, h.block⟩
theorem results_tmp4 {fn : Func} {t u v x : Tmp} (h : fn.results = #[.tmp t, .tmp u, .tmp v, .tmp x]) (tmps : Array Value) (P : Program) (w : World) :
    (results fn tmps).run P w = .ok (.tuple #[tmps.getD t undef, tmps.getD u undef, tmps.getD v undef, tmps.getD x undef]) w := by
  simp [results, h]

set_option maxRecDepth 1000000 in
theorem zzQuoted_any (gT cT : Nat) (q : UInt8) (name t U : Bs) (vu : Value) (w : World) (hcT : (qt q name ++ t).length ≤ cT)
    (hT : ∀ (i : Nat) (h : i < (qt q name ++ t).length), w.cell? ⟨gT, i, none⟩ = some (.int .u8 ((qt q name ++ t)[i].toNat : Int)))
    (hu : Full w vu U) (ht : t.head? ≠ some q) (hln : name.length ≤ 100000) (hlt : t.length ≤ 100000) (hlU : U.length ≤ 100000) :
    Calls Try.prog 22 #[.slice (some ⟨gT, 0, none⟩) (qt q name ++ t).length cT, .int .i64 0, .int .u8 (q.toNat : Int), vu] w fun e w' =>
      ∃ tok vu', e = .returned (.tuple #[.int .u8 2, tok, .int .i64 ((qt q name).length : Nat), vu']) ∧ Reads w' tok name ∧ (∃ U' a c, vu' = .slice a (U ++ U').length c ∧ (U ++ U').length ≤ c ∧ Reads w' vu' (U ++ U')) ∧ Below w.heap.size w w' := by
  have hq1 : 0 < (qt q name ++ t).length := by unfold qt; simp
  have hgT : gT < w.heap.size := World.block_lt_of_cell? w _ (hT 0 hq1)
  have hub : ∀ k, vu.ownBlock = some k → k < w.heap.size := by
    intro k hk
    rcases hu with ⟨rfl, _⟩ | ⟨g, rfl, h⟩
    · simp [Value.ownBlock] at hk
    · simp [Value.ownBlock] at hk
      subst hk
      exact h.lt
  have hb0 : Below w.heap.size w (w.alloc (.cells (scells (.slice (some ⟨gT, 0, none⟩) (qt q name ++ t).length cT) 0 vu) 50)) := (Below.refl _ _).alloc (Nat.le_refl _) _
  have h30 := quotedName_any w.heap.size gT cT q name t U vu (w.alloc (.cells (scells (.slice (some ⟨gT, 0, none⟩) (qt q name ++ t).length cT) 0 vu) 50)) hcT (Blk.new w _ 50)
    (fun i h => by rw [hb0.cell (p := ⟨gT, i, none⟩) hgT]; exact hT i h) hgT (hu.below hb0) hub ht hln hlt hlU
  obtain ⟨ua, uc, hvu⟩ : ∃ a c, vu = .slice a U.length c := Src.len (N := 0) (.inr hu)
  subst hvu
  have hsz : w.heap.size < (w.alloc (.cells (scells (.slice (some ⟨gT, 0, none⟩) (qt q name ++ t).length cT) 0 (.slice ua U.length uc)) 50)).heap.size := by simp
  have HB0 : Hid (Below w.heap.size w (w.alloc (.cells (scells (.slice (some ⟨gT, 0, none⟩) (qt q name ++ t).length cT) 0 (.slice ua U.length uc)) 50))) := hb0
  clear hT hu hub hb0
  unfold scells at h30 hsz HB0
  simp only [Int.natCast_zero] at h30 hsz HB0
  generalize (qt q name ++ t).length = TL at *
  generalize (qt q name).length = QL at *
  go_enter Try.func22, Try.ntmps22
  go_upto_region 2 with fail
  generalize w.alloc (.cells #[.slice (some ⟨gT, 0, none⟩) TL cT, .int .u64 0, .int .i64 0, .bool false, .int .u8 0, .slice none 0 0, .bool false, .slice ua U.length uc] 50) = w1 at *
  go_upto_region 3 with (first | (go_at_call 30; refine h30.mono ?_; rintro e w2 ⟨tok, vu', rfl, hrt, hsc2, ⟨U', na, nc, rfl, hnc, hru⟩, hb2⟩; obtain ⟨ta, tc, htok⟩ : ∃ a c, tok = .slice a name.length c := (by obtain ⟨a, c, e, _⟩ := hrt; exact ⟨a, c, e⟩); subst htok))
  have hw3 : Below w2.heap.size w2 (w2.alloc (.cells #[.int .u8 2, .slice ta name.length tc] 48)) := (Below.refl _ _).alloc (Nat.le_refl _) _
  have hB3 := Blk.new w2 #[.int .u8 2, .slice ta name.length tc] 48
  have hsc3 := hsc2.alloc (.cells #[.int .u8 2, .slice ta name.length tc] 48)
  have hrt3 := hrt.below hw3
  have hru3 := hru.below hw3
  have HBel : Hid (Below w.heap.size w (w2.alloc (.cells #[.int .u8 2, .slice ta name.length tc] 48))) := (HB0.out.trans hb2).trans (hw3.mono (Nat.le_trans (Nat.le_of_lt hsz) hb2.size))
  clear hw3 hsc2 hrt hru h30 hb2
  generalize w2.alloc (.cells #[.int .u8 2, .slice ta name.length tc] 48) = w3 at *
  generalize w2.heap.size = B2 at *
  obtain ⟨UL, HUL⟩ : ∃ UL, Hid ((U ++ U').length = UL) := ⟨_, rfl⟩
  rw [HUL.out] at hsc3 hru3 hnc
  obtain ⟨c0, c2, c7, cf⟩ := scAll hsc3
  have r0 := hB3.cell 0
  have r1 := hB3.cell 1
  simp at r0 r1
  go_quiet (fail)
  go_wp2
  refine bodyPost_ret (results_tmp4 Try.results22 _ _ _) rfl ?_
  exact ⟨_, _, rfl, hrt3, ⟨U', na, nc, by rw [HUL.out]; rfl, by rw [HUL.out]; exact hnc, hru3⟩, bel_drewN HBel.out⟩

def small3 (a b c : Nat) : Bool := decide (a ≤ 1048576 ∧ b ≤ 1048576 ∧ c ≤ 1048576 ∧ a + b + c ≤ 1048576)
theorem zzBytes_any (a0 a1 a3 : Option Addr) (n0 c0 n1 c1 n3 c3 : Nat) (b : Bool) (l0 : n0 ≤ maxLen) (l1 : n1 ≤ maxLen) (l3 : n3 ≤ maxLen) (w : World) :
    Calls Try.prog 19 #[.slice a0 n0 c0, .slice a1 n1 c1, .bool b, .slice a3 n3 c3] w fun e w' => e = .returned (.bool (small3 n0 n1 n3)) ∧ w' = w := by
  unfold maxLen at l0 l1 l3
  by_cases g0 : n0 ≤ 1048576
  case neg =>
    have H : Hid (small3 n0 n1 n3 = false) := by simp [small3, Hid]; omega
    go_enter Try.func19, Try.ntmps19
    go_wp2
    go_ret
    exact ⟨by rw [H.out]; rfl, rfl⟩
  by_cases g1 : n1 ≤ 1048576
  case neg =>
    have H : Hid (small3 n0 n1 n3 = false) := by simp [small3, Hid]; omega
    go_enter Try.func19, Try.ntmps19
    go_wp2
    go_ret
    exact ⟨by rw [H.out]; rfl, rfl⟩
  by_cases g2 : n0 + n1 ≤ 1048576
  case neg =>
    have H : Hid (small3 n0 n1 n3 = false) := by simp [small3, Hid]; omega
    go_enter Try.func19, Try.ntmps19
    go_wp2
    go_ret
    exact ⟨by rw [H.out]; rfl, rfl⟩
  by_cases g3 : n3 ≤ 1048576
  case neg =>
    have H : Hid (small3 n0 n1 n3 = false) := by simp [small3, Hid]; omega
    go_enter Try.func19, Try.ntmps19
    go_wp2
    go_ret
    exact ⟨by rw [H.out]; rfl, rfl⟩
  by_cases g4 : n0 + n1 + n3 ≤ 1048576
  case neg =>
    have H : Hid (small3 n0 n1 n3 = false) := by simp [small3, Hid]; omega
    go_enter Try.func19, Try.ntmps19
    go_wp2
    go_ret
    exact ⟨by rw [H.out]; rfl, rfl⟩
  have H : Hid (small3 n0 n1 n3 = true) := by simp [small3, Hid]; omega
  go_enter Try.func19, Try.ntmps19
  go_wp2
  go_ret
  exact ⟨by rw [H.out]; rfl, rfl⟩

theorem Arg.len {w : World} {v : Value} {xs : Bs} (h : Arg w v xs) : ∃ a c, v = .slice a xs.length c := by
  obtain ⟨a, c, e, _⟩ := h.reads
  exact ⟨a, c, e⟩

/-- the text that is scanned: not nil, so a row -/
theorem ownCells {w : World} {B : Nat} {v : Value} {xs : Bs} (h : Own w B v xs) (hp : 0 < xs.length) : ∃ g c, v = .slice (some ⟨g, 0, none⟩) xs.length c ∧ xs.length ≤ c ∧ ∀ (i : Nat) (h : i < xs.length), w.cell? ⟨g, i, none⟩ = some (.int .u8 (xs[i].toNat : Int)) := by
  have hr := h.reads
  obtain ⟨h1, h2⟩ := h
  rcases h2 with ⟨rfl, h3⟩ | ⟨g, cap, cur, rfl, hge, _, hcap, _⟩
  · omega
  · refine ⟨g, cap, rfl, hcap, ?_⟩
    obtain ⟨a, c, e, h⟩ := hr
    rcases h with ⟨rfl, _⟩ | ⟨x, rfl, h⟩
    · simp at e
    · simp at e
      obtain ⟨rfl, _⟩ := e
      intro i hi
      have := h i hi
      rwa [addz] at this

end Go.Proofs.Qxb6001093a
