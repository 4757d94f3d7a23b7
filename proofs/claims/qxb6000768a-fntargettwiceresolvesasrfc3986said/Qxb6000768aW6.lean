import Derived.Test.Qxb6000768aW5
import Derived.Test.Qxb6000768aL2
import Derived.Test.Qxb6000768aShelf
set_option linter.unusedSimpArgs false
set_option linter.unusedVariables false
namespace Go.Proofs.Qxb6000768a
open Go.RowKit

/-- the pieces ps lie above the piece f, which ends the chain base -/
def Above (w : World) : Option Addr → List ByteArray → Option Addr → List ByteArray → Prop
  | p, [], f, base => p = f ∧ Chain w f base
  | p, t :: ps, f, base => ∃ b q, p = some ⟨b, 0, none⟩ ∧ Piece w b q t (flat (t :: ps ++ base)).length ∧ (∀ b', q = some ⟨b', 0, none⟩ → b' < b) ∧ Above w q ps f base

theorem Above.chain {w : World} : ∀ {p : Option Addr} {ps : List ByteArray} {f : Option Addr} {base : List ByteArray}, Above w p ps f base → Chain w p (ps ++ base)
  | p, [], f, base, h => by rw [h.1]; exact h.2
  | p, t :: ps, f, base, h => by
    obtain ⟨b, q, hp, hpc, hlt, ha⟩ := h
    exact ⟨b, q, hp, hpc, hlt, ha.chain⟩
theorem Above.of_blocks {w w' : World} : ∀ {p : Option Addr} {ps : List ByteArray} {f : Option Addr} {base : List ByteArray}, Above w p ps f base → (∀ k, k < w.heap.size → w'.heap[k]? = w.heap[k]? ∨ ∃ k' f e, Dot w k k' f e) → Above w' p ps f base
  | p, [], f, base, h, hk => ⟨h.1, h.2.of_blocks hk⟩
  | p, t :: ps, f, base, h, hk => by
    obtain ⟨b, q, hp, hpc, hlt, ha⟩ := h
    refine ⟨b, q, hp, ?_, hlt, ha.of_blocks hk⟩
    rcases hk b (lt_of_some hpc) with h1 | ⟨k', f, e, hd⟩
    · unfold Piece; rw [h1]; exact hpc
    · unfold Dot at hd; unfold Piece at hpc; rw [hd] at hpc; simp at hpc
theorem Above.dot {w w' : World} {g : Nat} {k f0 : Option Addr} {e : Bool} {p : Option Addr} {ps : List ByteArray} {f : Option Addr} {base : List ByteArray} (h : Above w p ps f base) (hd : Dot w g k f0 e) (hb : w.grownBy w' (some g)) : Above w' p ps f base :=
  h.of_blocks fun j hj => by
    by_cases e : j = g
    · subst e; exact .inr ⟨_, _, _, hd⟩
    · exact .inl (hb.block j hj (by simp [e]))
theorem Above.lt {w : World} {fb : Nat} {base : List ByteArray} : ∀ {p : Option Addr} {ps : List ByteArray} {b : Nat}, Above w p ps (some ⟨fb, 0, none⟩) base → p = some ⟨b, 0, none⟩ → fb + ps.length ≤ b
  | p, [], b, h, e => by have := h.1.symm.trans e; simp at this; simp; omega
  | p, t :: ps, b, h, e => by
    obtain ⟨b1, q, hp, hpc, hlt, ha⟩ := h
    rw [hp] at e; simp at e; subst e
    cases hq : q with
    | none =>
      subst hq
      cases ps with
      | nil => have := ha.1; simp at this
      | cons t ps => obtain ⟨_, _, h1, _⟩ := ha; cases h1
    | some a =>
      have : ∃ b2, a = ⟨b2, 0, none⟩ := by
        subst hq
        cases ps with
        | nil => have := ha.1; simp at this; exact ⟨fb, this⟩
        | cons t ps => obtain ⟨b2, _, h1, _⟩ := ha; simp at h1; exact ⟨b2, h1⟩
      obtain ⟨b2, rfl⟩ := this
      have h1 := Above.lt ha hq
      have h2 := hlt b2 hq
      simp; omega

theorem floor_piece {w : World} {fb : Nat} {base : List ByteArray} (h : Chain w (some ⟨fb, 0, none⟩) base) : ∃ q s n, Piece w fb q s n := by
  cases base with
  | nil => cases h
  | cons t ts =>
    obtain ⟨b, q, hp, hpc, _, _⟩ := h
    simp at hp; subst hp
    exact ⟨_, _, _, hpc⟩
theorem Above.floor {w : World} : ∀ {p : Option Addr} {ps : List ByteArray} {f : Option Addr} {base : List ByteArray}, Above w p ps f base → Chain w f base
  | _, [], _, _, h => h.2
  | _, _ :: _, _, _, h => by obtain ⟨_, _, _, _, _, ha⟩ := h; exact ha.floor

theorem pop_ab (g fb : Nat) (k : Option Addr) (ps base : List ByteArray) (e0 : Bool) (w : World) (hd : Dot w g k (some ⟨fb, 0, none⟩) e0) (ha : Above w k ps (some ⟨fb, 0, none⟩) base) :
    Calls Try.prog 35 #[.pointer (some ⟨g, 0, none⟩)] w fun e w' => e = .returned (.tuple #[]) ∧ ∃ k', Dot w' g k' (some ⟨fb, 0, none⟩) e0 ∧ Above w' k' ps.tail (some ⟨fb, 0, none⟩) base ∧ w.grownBy w' (some g) := by
  cases ps with
  | nil =>
    have hk := ha.1
    subst hk
    refine (pop_same g _ e0 w hd).mono ?_
    rintro e w' ⟨he, hd', hg⟩
    exact ⟨he, _, hd', ha.dot hd hg, hg⟩
  | cons t ps =>
    obtain ⟨qf, sf, nf, hf⟩ := floor_piece ha.floor
    have ha0 := ha
    obtain ⟨b, q, rfl, hpc, hlt, ha1⟩ := ha
    have hne : b ≠ fb := by have := ha0.lt rfl; simp at this; omega
    refine (pop_other g b fb q t sf qf _ nf e0 w hd hpc hf hne).mono ?_
    rintro e w' ⟨he, hd', hg⟩
    exact ⟨he, q, hd', ha1.dot hd hg, hg⟩

theorem push_new {w w' : World} {g : Nat} {k f : Option Addr} {e0 : Bool} {ps base : List ByteArray} {s : ByteArray} (hd : Dot w g k f e0) (ha : Above w k ps f base) (hg : w.grownBy w' (some g)) (hp : Piece w' w.heap.size k s ((flat (ps ++ base)).length + s.size)) :
    Above w' (some ⟨w.heap.size, 0, none⟩) (s :: ps) f base := by
  refine ⟨w.heap.size, k, rfl, ?_, ?_, ha.dot hd hg⟩
  · have : (flat (s :: ps ++ base)).length = (flat (ps ++ base)).length + s.size := by simp [flat, blen]
    rw [this]; exact hp
  · rintro b' rfl
    exact ha.chain.lt

theorem push_ab (g fb : Nat) (k : Option Addr) (ps base : List ByteArray) (s : ByteArray) (e0 : Bool) (w : World) (hd : Dot w g k (some ⟨fb, 0, none⟩) e0) (ha : Above w k ps (some ⟨fb, 0, none⟩) base) (hn : (flat (ps ++ base)).length ≤ 100000000) (hs : s.size ≤ 100000000) :
    Calls Try.prog 42 #[.pointer (some ⟨g, 0, none⟩), .string s] w fun e w' => e = .returned (.tuple #[]) ∧ ∃ k' e1, Dot w' g k' (some ⟨fb, 0, none⟩) e1 ∧ Above w' k' (s :: ps) (some ⟨fb, 0, none⟩) base ∧ w.grownBy w' (some g) := by
  have hl := ha.chain.len
  cases ps with
  | nil =>
    have hk := ha.1
    subst hk
    refine (push_same g _ s _ e0 w hd hl hn hs).mono ?_
    rintro e w' ⟨he, ⟨e1, hd'⟩, hp, hg⟩
    exact ⟨he, _, e1, hd', push_new hd ha hg hp, hg⟩
  | cons t ps =>
    obtain ⟨qf, sf, nf, hf⟩ := floor_piece ha.floor
    have ha0 := ha
    obtain ⟨b, q, rfl, hpc, hlt, ha1⟩ := ha
    have hne : b ≠ fb := by have := ha0.lt rfl; simp at this; omega
    refine (push_other g b fb q t sf qf _ nf s e0 w hd hpc hf hne hn hs).mono ?_
    rintro e w' ⟨he, ⟨e1, hd'⟩, hp, hg⟩
    exact ⟨he, _, e1, hd', push_new hd ha0 hg hp, hg⟩

/-- pieces as dot removal keeps them -/
def Good : List ByteArray → Prop
  | [] => True
  | t :: ts => GoodP t.data.toList ∧ (t.data.toList.head? = some 47 ∨ ts = []) ∧ Good ts
theorem Good.tail {ps : List ByteArray} (h : Good ps) : Good ps.tail := by
  cases ps with
  | nil => exact h
  | cons t ts => exact h.2.2
theorem Good.drop {ps : List ByteArray} (h : Good ps) : dropSeg (flat ps) = flat ps.tail := by
  cases ps with
  | nil => rfl
  | cons t ts =>
    obtain ⟨⟨h1, h2, _⟩, h3, h4⟩ := h
    show dropSeg (flat ts ++ t.data.toList) = flat ts
    cases ht : t.data.toList with
    | nil => exact absurd ht h1
    | cons c u =>
      rw [ht] at h2 h3
      by_cases hc : c = 47
      · subst hc; exact dropSeg_at _ _ h2
      · rcases h3 with h3 | h3
        · simp at h3; exact absurd h3 hc
        · subst h3
          rw [show flat [] = [] from rfl]
          exact dropSeg_none _ (by intro hh; rcases List.mem_cons.1 hh with h5 | h5; exact hc h5.symm; exact h2 h5)
end Go.Proofs.Qxb6000768a
