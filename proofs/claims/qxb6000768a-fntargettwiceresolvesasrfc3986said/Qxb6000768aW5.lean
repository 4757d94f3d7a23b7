import Derived.Test.Qxb6000768aW4
import Derived.Deep.LoopGhost
set_option linter.unusedSimpArgs false
set_option linter.unusedVariables false
namespace Go.Proofs.Qxb6000768a
open Go.RowKit

/-- what a chain of pieces spells, the last piece first in the list -/
def flat : List ByteArray → Bs
  | [] => []
  | t :: ts => flat ts ++ t.data.toList

/-- the chain of pieces from p on, down to nil; the last piece first in the list -/
def Chain (w : World) : Option Addr → List ByteArray → Prop
  | p, [] => p = none
  | p, t :: ts => ∃ b q, p = some ⟨b, 0, none⟩ ∧ Piece w b q t (flat (t :: ts)).length ∧ (∀ b', q = some ⟨b', 0, none⟩ → b' < b) ∧ Chain w q ts

theorem Chain.of_blocks {w w' : World} : ∀ {p : Option Addr} {ts : List ByteArray}, Chain w p ts → (∀ k, k < w.heap.size → w'.heap[k]? = w.heap[k]? ∨ ∃ k' f e, Dot w k k' f e) → Chain w' p ts
  | p, [], h, _ => h
  | p, t :: ts, h, hk => by
    obtain ⟨b, q, hp, hpc, hlt, hc⟩ := h
    refine ⟨b, q, hp, ?_, hlt, Chain.of_blocks hc hk⟩
    rcases hk b (lt_of_some hpc) with h1 | ⟨k', f, e, hd⟩
    · unfold Piece; rw [h1]; exact hpc
    · unfold Dot at hd; unfold Piece at hpc; rw [hd] at hpc; simp at hpc
theorem Chain.below {w w' : World} {p : Option Addr} {ts : List ByteArray} (h : Chain w p ts) (hb : Below w.heap.size w w') : Chain w' p ts :=
  h.of_blocks fun k hk => .inl (hb.block k hk)
theorem Chain.dot {w w' : World} {g : Nat} {k f : Option Addr} {e : Bool} {p : Option Addr} {ts : List ByteArray} (h : Chain w p ts) (hd : Dot w g k f e) (hb : w.grownBy w' (some g)) : Chain w' p ts :=
  h.of_blocks fun j hj => by
    by_cases e : j = g
    · subst e; exact .inr ⟨_, _, _, hd⟩
    · exact .inl (hb.block j hj (by simp [e]))
theorem Chain.len {w : World} {p : Option Addr} {ts : List ByteArray} (h : Chain w p ts) : LenOf w p (flat ts).length := by
  cases ts with
  | nil => exact .inl ⟨h, rfl⟩
  | cons t ts =>
    obtain ⟨b, q, hp, hpc, hlt, hc⟩ := h
    exact .inr ⟨b, hp, hpc.cells.2.2⟩
theorem Chain.lt {w : World} {b : Nat} {ts : List ByteArray} (h : Chain w (some ⟨b, 0, none⟩) ts) : b < w.heap.size := by
  cases ts with
  | nil => cases h
  | cons t ts =>
    obtain ⟨b, q, hp, hpc, hlt, hc⟩ := h
    cases hp; exact lt_of_some hpc

theorem zzFlat_any (p : Option Addr) (all : List ByteArray) (w : World) (h : Chain w p all) (hl : (flat all).length ≤ 100000000) :
    Calls Try.prog 30 #[.pointer p] w fun e w' => e = .returned (.string ⟨(flat all).toArray⟩) ∧ Below w.heap.size w w' := by
  have hmk := run_make_bytes bt (flat all).length (flat all).length (Nat.le_refl _) (by omega)
  go_enter Try.func30, Try.ntmps30
  go_wp2_with (go_at_call 38; refine (length_any _ _ _ h.len).mono ?_; rintro e w ⟨rfl, rfl⟩)
  clear hmk
  have hstart : Row (w.alloc (.cells (zeros (flat all).length) 5)) 5 w.heap.size (flat all).length (List.replicate (flat all).length 0 ++ []) ∧ Below w.heap.size w (w.alloc (.cells (zeros (flat all).length) 5)) :=
    ⟨by simpa using Row.made w 5 (flat all).length (flat all).length (Nat.le_refl _), (Below.refl _ _).alloc (Nat.le_refl _) _⟩
  generalize hN : (flat all).length = N at *
  generalize hB : w.heap.size = B at *
  have HN : Hid ((flat all).length = N) := hN
  have HB : Hid (w.heap.size = B) := hB
  clear hN hB
  go_loopg [4] all.length (fun k q wr => ∃ (p : Option Addr) (ts : List ByteArray) (rest : Bs), q = .pointer p ∧ ts.length = k ∧ Chain w p ts ∧ flat all = flat ts ++ rest ∧ Row wr 5 B N (List.replicate (flat ts).length 0 ++ rest) ∧ Below B w wr)
  case atStart => exact ⟨p, all, [], rfl, rfl, h, by simp, by have := HN.out; rw [this]; exact hstart.1, hstart.2⟩
  case round =>
    obtain ⟨p, ts, rest, rfl, rfl, hc, hfl, hrow, hbel⟩ := hrel
    have HF : Hid (flat all = flat ts ++ rest) := hfl
    clear hfl hstart h
    cases ts with
    | nil =>
      have hp : p = none := hc
      subst hp
      have hcv := run_to_string bt Try.underlying9 hrow (n := N) (by have h1 := HN.out; have h2 := HF.out; rw [← h1, h2]; simp [flat])
      have HE : Hid (flat all = rest) := by have h2 := HF.out; show flat all = rest; simpa [flat] using h2
      go_wp2
      go_ret
      exact ⟨by rw [HE.out]; rfl, by rw [HB.out]; exact hbel⟩
    | cons t ts =>
      obtain ⟨b, q, rfl, hpc, hlt, hc2⟩ := hc
      obtain ⟨c0, c1, c2⟩ := hpc.cells
      have hbB : b < B := by have := lt_of_some hpc; have := HB.out; omega
      have d0 := (hbel.cell (p := ⟨b, 0, none⟩) hbB).trans c0
      have d1 := (hbel.cell (p := ⟨b, 1, none⟩) hbB).trans c1
      have d2 := (hbel.cell (p := ⟨b, 2, none⟩) hbB).trans c2
      clear c0 c1 c2 hpc
      have hsz : (flat (t :: ts)).length = (flat ts).length + t.size := by simp [flat, blen]
      rw [hsz] at d2
      have hle : (flat ts).length + t.size ≤ N := by have h1 := HN.out; have h2 := HF.out; rw [← h1, h2, List.length_append, hsz]; omega
      have hrl : (List.replicate (flat (t :: ts)).length (0 : UInt8) ++ rest).length = N := by have h1 := HN.out; have h2 := HF.out; rw [← h1, h2]; simp
      obtain ⟨w1, hcp, hrow1, hgr1⟩ := run_copy_str (ty := 3) (u := 9) bt (w := wr.drew) hrow (if N = (flat ts).length then some ⟨B, 0, none⟩ else some ⟨B, (flat ts).length, none⟩) (flat ts).length t.size (N - (flat ts).length) t
        (by by_cases e : N = (flat ts).length
            · exact .inr ⟨by omega, ⟨B, 0, none⟩, by rw [if_pos e]⟩
            · exact .inl (by rw [if_neg e])) rfl (by rw [hrl]; exact hle)
      have d01 := hgr1.cell (a := ⟨b, 0, none⟩) (v := .pointer q) (by exact d0) (by simp; omega)
      have HROW1 : Hid (Row w1 5 B N (List.replicate (flat ts).length 0 ++ (t.data.toList ++ rest)) ∧ Below B w w1) := by
        refine ⟨?_, ?_⟩
        · rw [hsz] at hrow1
          have e1 : (List.replicate ((flat ts).length + t.size) (0 : UInt8) ++ rest).take (flat ts).length = List.replicate (flat ts).length 0 := by
            rw [List.take_append_of_le_length (by simp), List.take_replicate]; congr 1; omega
          have e2 : (List.replicate ((flat ts).length + t.size) (0 : UInt8) ++ rest).drop ((flat ts).length + t.size) = rest := by
            rw [List.drop_append_of_le_length (by simp)]; simp
          rw [e1, e2, List.append_assoc] at hrow1
          exact hrow1
        · exact hbel.drew.grown hgr1 (by have := hbel.size; have := HB.out; simp; omega) (by rintro j hj; cases hj; exact Nat.le_refl _)
      have HF2 : Hid (flat all = flat ts ++ (t.data.toList ++ rest)) := by have h2 := HF.out; simpa [flat, Hid] using h2
      clear hrow1 hgr1 hsz hrl
      generalize hm : (flat ts).length = m at *
      have HM : Hid ((flat ts).length = m) := hm
      clear hm
      by_cases hNm : N = m
      · subst hNm
        have h0 : t.size = 0 := by omega
        clear hle
        rw [if_pos rfl, Nat.sub_self, h0] at hcp
        rw [h0] at d2
        simp only [Nat.add_zero] at d2
        go_wp2
        go_region
        all_goals go_wp2
        all_goals go_roundg ts.length
        case measure => simp
        case rel => exact ⟨q, ts, t.data.toList ++ rest, rfl, rfl, hc2, HF2.out, by have := HM.out; rw [this]; exact HROW1.out.1, HROW1.out.2⟩
      · rw [if_neg hNm] at hcp
        go_wp2
        go_region
        all_goals go_wp2
        all_goals go_roundg ts.length
        case measure => simp
        case rel => exact ⟨q, ts, t.data.toList ++ rest, rfl, rfl, hc2, HF2.out, by have := HM.out; rw [this]; exact HROW1.out.1, HROW1.out.2⟩
end Go.Proofs.Qxb6000768a
