import Derived.Test.Qxb6000880aW3
set_option linter.unusedSimpArgs false
set_option linter.unusedVariables false
namespace Go.Proofs.Qxb6000880a

structure A where
  nm : Bs
  val : Bs
  q : UInt8
  bare : Bool
def qq (q : UInt8) : Bs := if q = 0 then [] else [q]
def tailOf (a : A) : Bs := if a.bare then [] else 61 :: (qq a.q ++ (a.val ++ qq a.q))
def rend (a : A) : Bs := 32 :: (a.nm ++ tailOf a)
def rends (ats : List A) : Bs := ats.flatMap rend
structure F where
  ko : Nat
  kl : Nat
  st : Nat
  en : Nat
  q : UInt8
  bare : Bool
def fnd (p : Nat) (a : A) : F :=
  ⟨p + 1, a.nm.length, if a.bare then p + 1 + a.nm.length else p + 1 + a.nm.length + 1 + (qq a.q).length, if a.bare then p + 1 + a.nm.length else p + 1 + a.nm.length + 1 + (qq a.q).length + a.val.length, if a.bare then 0 else a.q, a.bare⟩
def found : Nat → List A → List F
  | _, [] => []
  | p, a :: ats => fnd p a :: found (p + (rend a).length) ats
theorem rends_app (xs ys : List A) : rends (xs ++ ys) = rends xs ++ rends ys := by simp [rends]
theorem rends_cons (a : A) (xs : List A) : rends (a :: xs) = rend a ++ rends xs := by simp [rends]
theorem found_app (p : Nat) (xs ys : List A) : found p (xs ++ ys) = found p xs ++ found (p + (rends xs).length) ys := by
  induction xs generalizing p with
  | nil => simp [found, rends]
  | cons a t ih => simp [found, ih, rends_cons, Nat.add_assoc]
theorem found_len (p : Nat) (xs : List A) : (found p xs).length = xs.length := by
  induction xs generalizing p with
  | nil => rfl
  | cons a t ih => simp [found, ih]
theorem found_get (p : Nat) (xs : List A) (k : Nat) (h : k < xs.length) (h' : k < (found p xs).length) : (found p xs)[k] = fnd (p + (rends (xs.take k)).length) xs[k] := by
  have e : xs = xs.take k ++ xs[k] :: xs.drop (k + 1) := by rw [List.getElem_cons_drop, List.take_append_drop]
  have e2 : (found p xs)[k]? = some (fnd (p + (rends (xs.take k)).length) xs[k]) := by
    conv => lhs; rw [e, found_app]
    rw [List.getElem?_append_right (by rw [found_len]; simp; omega), found_len]
    simp [found, Nat.min_eq_left (Nat.le_of_lt h)]
  rw [List.getElem?_eq_getElem h'] at e2
  exact Option.some.inj e2
def OKA (a : A) : Prop :=
  a.nm ≠ [] ∧ (∀ c ∈ a.nm, badN c = false) ∧ (a.bare = false → ((a.q = 34 ∨ a.q = 39) ∧ a.q ∉ a.val) ∨ (a.q = 0 ∧ a.val ≠ [] ∧ a.val.head? ≠ some 34 ∧ a.val.head? ≠ some 39 ∧ ∀ d ∈ a.val, badV d = false))
/-- the tag -/
def tagOf (ats : List A) : Bs := 60 :: 120 :: (rends ats ++ [62])
theorem tag_drop (dn rs : List A) : (tagOf (dn ++ rs)).drop (2 + (rends dn).length) = rends rs ++ [62] := by
  rw [← List.drop_drop]
  show (rends (dn ++ rs) ++ [62]).drop _ = _
  rw [rends_app, List.append_assoc, List.drop_left]
/-- the value's bytes lie where they are told -/
theorem tag_val (ats : List A) (k : Nat) (h : k < ats.length) (hb : ats[k].bare = false) :
    ((tagOf ats).drop (fnd (2 + (rends (ats.take k)).length) ats[k]).st).take ats[k].val.length = ats[k].val ∧ (fnd (2 + (rends (ats.take k)).length) ats[k]).en ≤ (tagOf ats).length ∧ (fnd (2 + (rends (ats.take k)).length) ats[k]).st < (tagOf ats).length := by
  have e : ats = ats.take k ++ ats[k] :: ats.drop (k + 1) := by rw [List.getElem_cons_drop, List.take_append_drop]
  have hd : (tagOf ats).drop (2 + (rends (ats.take k)).length) = rends (ats[k] :: ats.drop (k + 1)) ++ [62] := by
    conv => lhs; rw [e]
    have := tag_drop (ats.take k) (ats[k] :: ats.drop (k + 1))
    simpa using this
  have hl : (tagOf ats).length ≥ 2 + (rends (ats.take k)).length := by
    have : rends ats = rends (ats.take k) ++ rends (ats[k] :: ats.drop (k + 1)) := by rw [← rends_app, ← e]
    simp [tagOf, this]; omega
  have hlen := congrArg List.length hd
  rw [rends_cons] at hd hlen
  generalize ats[k] = a at *
  have hst : (fnd (2 + (rends (ats.take k)).length) a).st = (2 + (rends (ats.take k)).length) + (32 :: (a.nm ++ (61 :: qq a.q))).length := by simp [fnd, hb]; omega
  have hen : (fnd (2 + (rends (ats.take k)).length) a).en = (2 + (rends (ats.take k)).length) + (32 :: (a.nm ++ (61 :: qq a.q))).length + a.val.length := by simp [fnd, hb]; omega
  have hr : rend a = (32 :: (a.nm ++ (61 :: qq a.q))) ++ (a.val ++ qq a.q) := by simp [rend, tailOf, hb]
  rw [hr] at hd hlen
  simp only [List.length_drop, List.length_append, List.length_cons, List.length_nil] at hlen
  refine ⟨?_, ?_, ?_⟩
  · rw [hst, ← List.drop_drop, hd, List.append_assoc, List.append_assoc, List.drop_left, List.append_assoc, List.take_left]
  · rw [hen]; simp only [List.length_append, List.length_cons]; omega
  · rw [hst]; simp only [List.length_append, List.length_cons]; omega
theorem tag_key (ats : List A) (k : Nat) (h : k < ats.length) : ((tagOf ats).drop (fnd (2 + (rends (ats.take k)).length) ats[k]).ko).take ats[k].nm.length = ats[k].nm ∧ (fnd (2 + (rends (ats.take k)).length) ats[k]).ko + ats[k].nm.length < (tagOf ats).length ∧ (ats[k].bare = true → (fnd (2 + (rends (ats.take k)).length) ats[k]).st ≤ (tagOf ats).length) := by
  have e : ats = ats.take k ++ ats[k] :: ats.drop (k + 1) := by rw [List.getElem_cons_drop, List.take_append_drop]
  have hd : (tagOf ats).drop (2 + (rends (ats.take k)).length) = rends (ats[k] :: ats.drop (k + 1)) ++ [62] := by
    conv => lhs; rw [e]
    have := tag_drop (ats.take k) (ats[k] :: ats.drop (k + 1))
    simpa using this
  have hl : (tagOf ats).length ≥ 2 + (rends (ats.take k)).length := by
    have : rends ats = rends (ats.take k) ++ rends (ats[k] :: ats.drop (k + 1)) := by rw [← rends_app, ← e]
    simp [tagOf, this]; omega
  have hlen := congrArg List.length hd
  rw [rends_cons] at hd hlen
  generalize ats[k] = a at *
  have hst : (fnd (2 + (rends (ats.take k)).length) a).ko = (2 + (rends (ats.take k)).length) + [(32 : UInt8)].length := rfl
  have hr : rend a = [32] ++ (a.nm ++ tailOf a) := by simp [rend]
  rw [hr] at hd hlen
  simp only [List.length_drop, List.length_append, List.length_cons, List.length_nil] at hlen
  refine ⟨?_, ?_, ?_⟩
  · rw [hst, ← List.drop_drop, hd, List.append_assoc, List.append_assoc, List.drop_left, List.append_assoc, List.take_left]
  · rw [hst]; simp only [List.length_cons, List.length_nil]; omega
  · intro hb; simp only [fnd, hb, if_true]; omega
end Go.Proofs.Qxb6000880a
