import Derived.Test.Qxb6000768aL2
import Derived.Lib.IndexAny
import Derived.Lib.IndexMore
import Derived.Lib.IndexBytes
import Derived.Lib.IndexLaws
set_option linter.unusedSimpArgs false
set_option linter.unusedVariables false
namespace Go.Proofs.Qxb6000768a

/-- how many bytes stand ahead of the first that is among cs -/
def upTo (cs s : Bs) : Nat := (s.takeWhile (fun c => !cs.contains c)).length
theorem upTo_le (cs s : Bs) : upTo cs s ≤ s.length := (List.takeWhile_prefix _).length_le
theorem upTo_nil (cs : Bs) : upTo cs [] = 0 := rfl
theorem upTo_cons (cs : Bs) (b : UInt8) (s : Bs) : upTo cs (b :: s) = if cs.contains b then 0 else upTo cs s + 1 := by
  unfold upTo
  rw [List.takeWhile_cons]
  cases h : cs.contains b <;> simp
theorem upTo_before (cs : Bs) : ∀ (s : Bs) (j : Nat) (b : UInt8), j < upTo cs s → s[j]? = some b → cs.contains b = false
  | [], j, b, h, _ => by simp [upTo_nil] at h
  | x :: s, j, b, h, hb => by
    rw [upTo_cons] at h
    split at h
    · omega
    · rename_i hx
      cases j with
      | zero => simp at hb; subst hb; simpa using hx
      | succ j => exact upTo_before cs s j b (by omega) (by simpa using hb)
theorem upTo_at (cs : Bs) : ∀ (s : Bs), upTo cs s < s.length → ∃ b, s[upTo cs s]? = some b ∧ cs.contains b = true
  | [], h => by simp [upTo_nil] at h
  | x :: s, h => by
    rw [upTo_cons] at h ⊢
    split
    · rename_i hx; exact ⟨x, rfl, hx⟩
    · rename_i hx
      rw [if_neg hx] at h
      obtain ⟨b, h1, h2⟩ := upTo_at cs s (by simpa using h)
      exact ⟨b, by simpa using h1, h2⟩
theorem upTo_eq (cs s : Bs) (k : Nat) (hk : k ≤ s.length) (hb : ∀ (j : Nat) (b : UInt8), j < k → s[j]? = some b → cs.contains b = false) (he : k = s.length ∨ ∃ b, s[k]? = some b ∧ cs.contains b = true) : upTo cs s = k := by
  have h1 := upTo_le cs s
  rcases Nat.lt_trichotomy (upTo cs s) k with h | h | h
  · obtain ⟨b, h2, h3⟩ := upTo_at cs s (by omega)
    rw [hb _ b h h2] at h3; simp at h3
  · exact h
  · rcases he with he | ⟨b, h2, h3⟩
    · omega
    · rw [upTo_before cs s k b h h2] at h3; simp at h3
theorem indexAny_upTo (cs s : Bs) : Lib.indexAny s cs = if upTo cs s < s.length then (upTo cs s : Int) else -1 := by
  by_cases h : upTo cs s < s.length
  · rw [if_pos h]
    obtain ⟨b, h1, h2⟩ := upTo_at cs s h
    exact Lib.indexAny_hit (fun j b hj hb => upTo_before cs s j b hj hb) h1 h2
  · rw [if_neg h]
    have := upTo_le cs s
    exact Lib.indexAny_none (fun j b hj hb => upTo_before cs s j b (by omega) hb)

def cutScheme (s : Bs) : Bs × Bs × Bool :=
  if 0 < upTo [58, 47, 63, 35] s ∧ s[upTo [58, 47, 63, 35] s]? = some 58 then (s.take (upTo [58, 47, 63, 35] s), s.drop (upTo [58, 47, 63, 35] s + 1), true) else ([], s, false)
def cutAuth (s : Bs) : Bs × Bs × Bool :=
  if List.isPrefixOf [47, 47] s = true then ((s.drop 2).take (upTo [47, 63, 35] (s.drop 2)), (s.drop 2).drop (upTo [47, 63, 35] (s.drop 2)), true) else ([], s, false)
def cutAt (c : UInt8) (s : Bs) : Bs × Bs × Bool :=
  if upTo [c] s < s.length then (s.take (upTo [c] s), s.drop (upTo [c] s + 1), true) else (s, [], false)

/-- the parts of a reference -/
structure PRef where
  scheme : Bs
  authority : Bs
  path : Bs
  query : Bs
  fragment : Bs
  hs : Bool
  ha : Bool
  hq : Bool
  hf : Bool

def parse (s : Bs) : PRef :=
  { scheme := (cutScheme s).1
    authority := (cutAuth (cutScheme s).2.1).1
    path := (cutAt 63 (cutAt 35 (cutAuth (cutScheme s).2.1).2.1).1).1
    query := (cutAt 63 (cutAt 35 (cutAuth (cutScheme s).2.1).2.1).1).2.1
    fragment := (cutAt 35 (cutAuth (cutScheme s).2.1).2.1).2.1
    hs := (cutScheme s).2.2
    ha := (cutAuth (cutScheme s).2.1).2.2
    hq := (cutAt 63 (cutAt 35 (cutAuth (cutScheme s).2.1).2.1).1).2.2
    hf := (cutAt 35 (cutAuth (cutScheme s).2.1).2.1).2.2 }

theorem cutScheme_len (s : Bs) : (cutScheme s).1.length + (cutScheme s).2.1.length ≤ s.length := by
  unfold cutScheme; split
  · simp; omega
  · simp
theorem cutAuth_len (s : Bs) : (cutAuth s).1.length + (cutAuth s).2.1.length ≤ s.length := by
  unfold cutAuth; split
  · simp; omega
  · simp
theorem cutAt_len (c : UInt8) (s : Bs) : (cutAt c s).1.length + (cutAt c s).2.1.length ≤ s.length := by
  unfold cutAt; split
  · simp; omega
  · simp
theorem cut_lib (c : UInt8) (s : Bs) : Lib.cut s [c] = cutAt c s := by
  unfold Lib.cut cutAt
  rw [Lib.index_one]
  have : Lib.indexByte s c = if upTo [c] s < s.length then (upTo [c] s : Int) else -1 := by
    rw [← Lib.indexAny_one, indexAny_upTo]
  rw [this]
  by_cases h : upTo [c] s < s.length
  · simp [h]
  · simp [h]
end Go.Proofs.Qxb6000768a
