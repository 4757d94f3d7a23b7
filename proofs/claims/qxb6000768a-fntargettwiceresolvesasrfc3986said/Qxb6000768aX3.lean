import Derived.Test.Qxb6000768aX2
import Derived.Test.Qxb6000768aL4
import Derived.Test.Qxb6000768aW8
set_option linter.unusedSimpArgs false
set_option linter.unusedVariables false
namespace Go.Proofs.Qxb6000768a
open Go.RowKit

/-- the pieces in memory stay as they are -/
def Kp (w w' : World) : Prop := ∀ (k : Nat) (cs : Array Value) (fz : Nat × Nat), w.heap[k]? = some (Obj.cells cs 54 fz) → w'.heap[k]? = some (Obj.cells cs 54 fz)
theorem Kp.refl (w : World) : Kp w w := fun _ _ _ h => h
theorem Kp.trans {a b c : World} (h : Kp a b) (k : Kp b c) : Kp a c := fun i cs fz e => k i cs fz (h i cs fz e)
theorem Kp.drew {a b : World} (h : Kp a b) : Kp a b.drew := h
theorem Kp.drewN {a b : World} (h : Kp a b) (n : Nat) : Kp a (b.drewN n) := h
theorem Kp.alloc {a b : World} (h : Kp a b) (o : Obj) : Kp a (b.alloc o) := h.trans fun k cs fz e => by
  rw [Below.heap_alloc _ _ _ (lt_of_some e)]; exact e
theorem Kp.below {w w' : World} (h : Below w.heap.size w w') : Kp w w' := fun k cs fz e => by rw [h.block k (lt_of_some e)]; exact e
theorem Kp.set {a b : World} (h : Kp a b) {g : Nat} {cs : Array Value} {T : TypeId} (hg : Blk b g cs T) (hT : T ≠ 54) (o : Nat) (v : Value) : Kp a (b.setCell ⟨g, o, none⟩ v) := h.trans fun k cs' fz e => by
  by_cases hk : k = g
  · subst hk; unfold Blk at hg; rw [hg] at e; simp at e; exact absurd e.2.1 hT
  · rw [Below.heap_setCell _ _ _ _ hk]; exact e
theorem Kp.grown {w w' : World} {g : Nat} {cs : Array Value} {T : TypeId} (h : w.grownBy w' (some g)) (hg : Blk w g cs T) (hT : T ≠ 54) : Kp w w' := fun k cs' fz e => by
  by_cases hk : k = g
  · subst hk; unfold Blk at hg; rw [hg] at e; simp at e; exact absurd e.2.1 hT
  · rw [h.block k (lt_of_some e) (by simp [hk])]; exact e
theorem Kp.piece {w w' : World} (h : Kp w w') {b : Nat} {q : Option Addr} {s : ByteArray} {n : Nat} (hp : Piece w b q s n) : Piece w' b q s n := h _ _ _ hp
theorem Kp.chain {w w' : World} (h : Kp w w') : ∀ {p : Option Addr} {ts : List ByteArray}, Chain w p ts → Chain w' p ts
  | p, [], hc => hc
  | p, t :: ts, hc => by
    obtain ⟨b, q, hp, hpc, hlt, hc⟩ := hc
    exact ⟨b, q, hp, h.piece hpc, hlt, h.chain hc⟩
theorem Kp.above {w w' : World} (h : Kp w w') : ∀ {p : Option Addr} {ps : List ByteArray} {f : Option Addr} {base : List ByteArray}, Above w p ps f base → Above w' p ps f base
  | p, [], f, base, ha => ⟨ha.1, h.chain ha.2⟩
  | p, t :: ps, f, base, ha => by
    obtain ⟨b, q, hp, hpc, hlt, ha⟩ := ha
    exact ⟨b, q, hp, h.piece hpc, hlt, h.above ha⟩
theorem Dot.blk {w : World} {g : Nat} {k f : Option Addr} {e : Bool} (h : Dot w g k f e) : Blk w g #[.pointer k, .pointer f, .bool e] 41 := h

theorem Good.ne {t : ByteArray} {ts : List ByteArray} (h : Good (t :: ts)) : flat (t :: ts) ≠ [] := by
  intro e
  have h1 := h.1.1
  unfold flat at e
  have := List.append_eq_nil_iff.1 e
  exact h1 this.2
theorem Good.nil {ps : List ByteArray} (h : Good ps) (e : flat ps = []) : ps = [] := by
  cases ps with
  | nil => rfl
  | cons t ts => exact absurd e h.ne
theorem RD_good : ∀ (ts : List ByteArray) (y : Bs), Good ts → (y = [] ∨ ∃ x, y = 47 :: x) → RD [] (flat ts ++ y) = RD (flat ts) y
  | [], y, _, _ => rfl
  | t :: ts, y, hg, hy => by
    obtain ⟨⟨h1, h2, h3, h4, h5, h6⟩, h7, h8⟩ := hg
    cases ht : t.data.toList with
    | nil => exact absurd ht h1
    | cons c u =>
      rw [ht] at h2 h3 h4 h5 h6 h7
      show RD [] (flat ts ++ t.data.toList ++ y) = RD (flat ts ++ t.data.toList) y
      rw [ht, List.append_assoc]
      by_cases hc : c = 47
      · subst hc
        rw [RD_good ts ((47 :: u) ++ y) h8 (.inr ⟨u ++ y, rfl⟩)]
        exact RD_slash_other (flat ts) u y (by simpa using h2) hy (by rintro rfl; exact h5 rfl) (by rintro rfl; exact h6 rfl)
      · rcases h7 with h7 | h7
        · simp at h7; exact absurd h7 hc
        · subst h7
          exact RD_plain_other [] (c :: u) y (by intro hh; rcases List.mem_cons.1 hh with h9 | h9; exact hc h9.symm; exact h2 h9) hy (by simp) h3 h4

theorem mergeNew (R : PRef) (ps : List ByteArray) (hg : Good ps) (hf : flat ps = RD [] (if R.ha = true ∧ R.path = [] then [47] else upSlash R.path)) (rp : Bs) :
    RD [] (merge R rp) = RD (flat ps.tail) ((if ps.isEmpty then [] else [47]) ++ rp) := by
  unfold merge
  have ht := hg.drop
  by_cases h1 : R.ha = true ∧ R.path = []
  · rw [if_pos h1] at hf ⊢
    rw [RD_slash] at hf
    have hne : ps.isEmpty = false := by cases ps with
      | nil => simp [flat] at hf
      | cons _ _ => rfl
    rw [hne, ← ht, hf]
    simp [dropSeg_at [] [] (by simp)]
    rfl
  · rw [if_neg h1] at hf ⊢
    by_cases h2 : (47 : UInt8) ∈ R.path
    · obtain ⟨a, b, hab, hb⟩ := split_last R.path h2
      rw [hab, upSlash_at a b hb] at hf ⊢
      rcases RD_join a rp with ⟨e1, e2⟩ | ⟨o', e1, e2⟩
      · rw [e1] at hf
        have := hg.nil hf
        subst this
        rw [List.append_assoc]
        exact e2
      · rw [e1] at hf
        have hne : ps.isEmpty = false := by cases ps with
          | nil => simp [flat] at hf
          | cons _ _ => rfl
        rw [hne, ← ht, hf, dropSeg_at o' [] (by simp), List.append_assoc]
        exact e2
    · rw [upSlash_none _ h2] at hf ⊢
      have := hg.nil (hf.trans (RD_nil _))
      subst this
      rfl

theorem mergeTarget (R : PRef) (ps : List ByteArray) (hg : Good ps) (hf : R.path = flat ps) (ro : Bool) (hro : ro = match ps with | [] => R.ha | t :: _ => decide (t.data.toList.head? = some 47)) (rp : Bs) :
    RD [] (merge R rp) = RD (flat ps.tail) ((if ro then [47] else []) ++ rp) := by
  unfold merge
  cases ps with
  | nil =>
    have hf' : R.path = [] := hf
    rw [hf']
    simp only at hro
    subst hro
    cases R.ha <;> rfl
  | cons t ts =>
    have hne : R.path ≠ [] := by rw [hf]; exact hg.ne
    rw [if_neg (fun h => hne h.2), hf]
    obtain ⟨⟨h1, h2, h3, h4, h5, h6⟩, h7, h8⟩ := hg
    simp only at hro
    show RD [] (upSlash (flat ts ++ t.data.toList) ++ rp) = RD (flat ts) _
    cases ht : t.data.toList with
    | nil => exact absurd ht h1
    | cons c u =>
      rw [ht] at h2 h7 hro
      by_cases hc : c = 47
      · subst hc
        have : ro = true := by rw [hro]; simp
        subst this
        rw [upSlash_at _ u (by simpa using h2), List.append_assoc]
        exact RD_good ts (47 :: rp) h8 (.inr ⟨rp, rfl⟩)
      · have : ro = false := by rw [hro]; simp [hc]
        subst this
        rcases h7 with h7 | h7
        · simp at h7; exact absurd h7 hc
        · subst h7
          rw [upSlash_none _ (by show (47 : UInt8) ∉ flat [] ++ (c :: u); simp [flat]; exact ⟨fun e => hc e.symm, by simpa using h2⟩)]
          rfl

/-- the cells of a 'Base' -/
def baseCells (sc au pa qu di : Option Addr) (ro ef : Bool) : Array Value := #[.pointer sc, .pointer au, .pointer pa, .pointer qu, .pointer di, .bool ro, .bool ef]

/-- the chains of a Base spell the parts R; its dir serves for what is merged -/
structure BaseOK (M : Nat) (w : World) (R : PRef) (sb ab : Nat) (pa qu di : Option Addr) (ro : Bool) (scs aus pas qus ds : List ByteArray) : Prop where
  sc : Chain w (some ⟨sb, 0, none⟩) scs
  scf : flat scs = R.scheme ++ [58]
  au : Chain w (some ⟨ab, 0, none⟩) aus
  auf : flat aus = flat scs ++ (if R.ha then [47, 47] ++ R.authority else [])
  ne : R.ha = true → ab ≠ sb
  eq : R.ha = false → ab = sb
  pa : Chain w pa pas
  paf : flat pas = flat aus ++ R.path
  qu : Chain w qu qus
  quf : flat qus = flat pas ++ (if R.hq then 63 :: R.query else [])
  di : Above w di ds (some ⟨ab, 0, none⟩) aus
  good : Good ds
  mer : ∀ rp, RD [] (merge R rp) = RD (flat ds) ((if ro then [47] else []) ++ rp)
  roo : ds = [] ∨ ro = true
  len : (flat qus).length ≤ M
  dlen : (flat (ds ++ aus)).length ≤ M

theorem BaseOK.keep {M : Nat} {w w' : World} {R : PRef} {sb ab : Nat} {pa qu di : Option Addr} {ro : Bool} {scs aus pas qus ds : List ByteArray} (h : BaseOK M w R sb ab pa qu di ro scs aus pas qus ds) (hk : Kp w w') : BaseOK M w' R sb ab pa qu di ro scs aus pas qus ds :=
  { h with sc := hk.chain h.sc, au := hk.chain h.au, pa := hk.chain h.pa, qu := hk.chain h.qu, di := hk.above h.di }
end Go.Proofs.Qxb6000768a
