import Derived.Test.Qxb6000880aRows
import Derived.Test.Qxb6000880aW8
import Derived.WalkKit
import Derived.ProofKit
import Derived.OpenShut
import Derived.ShutString
import Derived.ChangeOld
import Derived.Below
import Derived.SliceStrings
import Derived.Deep.Grids
namespace Go.Proofs.Qxb6000880a.fnScanAttrsRecoversRenderedAttributes
open Go.ChangeShapes Go.WideShapes Go.ChangeAt Go.RowKit
open Go.ChangeMaps (open_string shut_string)
open Go.Proofs.Qxb6000880a
set_option linter.unusedVariables false

theorem own : ownKnob Try.prog.godebug = none := by kernel_rfl
theorem laidOut : laidOutB Try.prog = true := by kernel_rfl

theorem rd_strs {w : World} {x : Addr} {len cap : Nat} {ss : List ByteArray} (hl : len ≤ cap) (hz : ss.length = cap) (hc : ∀ i, i < ss.length → w.cell? (x.add i) = some (.string (ss.getD i ByteArray.empty))) (hw : ∀ s ∈ ss, s.size ≤ maxLen) :
    ∃ ns : List ByteArray, ns.length = len ∧ RD Value.string w (.slice (some x) len cap) ns ∧ ∀ s ∈ ns, s.size ≤ maxLen := by
  have hlen : (ss.take len).length = len := by simp; omega
  refine ⟨ss.take len, hlen, ⟨some x, cap, by rw [hlen], by omega, .inr ⟨x, rfl, fun i hi => ?_⟩⟩, fun s hs => hw s (List.mem_of_mem_take hs)⟩
  have hi2 : i < ss.length := by omega
  rw [hc i hi2]
  simp [List.getD, List.getElem?_eq_getElem hi2]
theorem rd_nil {α : Type} (f : α → Value) (w : World) : RD f w (.slice none 0 0) [] := ⟨none, 0, rfl, Nat.le_refl _, .inl ⟨rfl, rfl, rfl⟩⟩
theorem rd_bytes {w : World} {x : Addr} {len cap : Nat} {zs : List Int} (hl : len ≤ cap) (hz : zs.length = cap) (hc : ∀ i, i < zs.length → w.cell? (x.add i) = some (.int .u8 (zs.getD i 0))) (hw : ∀ n ∈ zs, (Lit.int .u8 n).wf = true) :
    ∃ xs : Bs, xs.length = len ∧ RD u8v w (.slice (some x) len cap) xs := by
  have hlen : ((zs.take len).map fun z => UInt8.ofNat z.toNat).length = len := by simp; omega
  refine ⟨(zs.take len).map fun z => UInt8.ofNat z.toNat, hlen, ⟨some x, cap, by rw [hlen], by omega, .inr ⟨x, rfl, fun i hi => ?_⟩⟩⟩
  have hi2 : i < zs.length := by omega
  rw [hc i hi2]
  have hb := bounds_u8 (hw zs[i] (List.getElem_mem hi2))
  simp [List.getD, List.getElem?_eq_getElem hi2, u8v]
  omega
theorem rd_bools {w : World} {x : Addr} {len cap : Nat} {B : Nat → Bool} (hl : len ≤ cap) (hc : ∀ i, i < cap → w.cell? (x.add i) = some (.bool (B i))) :
    ∃ xs : List Bool, xs.length = len ∧ RD Value.bool w (.slice (some x) len cap) xs := by
  have hlen : ((List.range len).map B).length = len := by simp
  refine ⟨(List.range len).map B, hlen, ⟨some x, cap, by rw [hlen], by omega, .inr ⟨x, rfl, fun i hi => ?_⟩⟩⟩
  rw [hc i (by omega)]
  simp

set_option maxRecDepth 100000 in
theorem lifted (os : Os) (started : os.Started) (H : Type) (enc : TypeId × Value → H) :
    ReturnsInHanded {} Try.checked os 7 .any (Rows.fnScanAttrsRecoversRenderedAttributesSpec.pre6 enc Try.prog Try.f7 Rows.fnScanAttrsRecoversRenderedAttributesRow.domain false) (Rows.fnScanAttrsRecoversRenderedAttributesSpec.post enc Try.prog Try.f7 false true false false) := by
  refine returnsInHanded_of_change (C := Try.checked) own started (by kernel_rfl) Try.func7
    (ChangeSpec.witness6 (enc := enc) (C := Try.checked) false ⟨#[], #[.slice none 0 0, .slice none 0 0, .slice none 0 0, .slice none 0 0], []⟩ 8 (by kernel_rfl) (by kernel_rfl) (by kernel_rfl) (by kernel_rfl)) ?_
  intro W base args ds gs before hval0 hW hcnd _
  have hval : ∀ (j : Nat) t v, Try.f7.params[j]? = some t → args[j]? = some v → Value.okWide Try.prog W .any base t v := hval0
  have hW' := hW
  obtain ⟨p, q, hA0, hV, rfl, hfz, hnd⟩ := hW
  have hA : DataW.TrodAll enc Try.prog W 0 (fun _ => true) true Try.f7.params.toList args.toList ds p := hA0
  rw [Try.params7] at hA hval
  obtain ⟨v0, vs0, d0, ds0, p0, q0, hargs, rfl, rfl, h0, r0⟩ := trodAll_cons hA
  obtain ⟨v1, vs1, d1, ds1, p1, q1, rfl, rfl, rfl, h1, r1⟩ := trodAll_cons r0
  obtain ⟨v2, vs2, d2, ds2, p2, q2, rfl, rfl, rfl, h2, r2⟩ := trodAll_cons r1
  obtain ⟨v3, vs3, d3, ds3, p3, q3, rfl, rfl, rfl, h3, r3⟩ := trodAll_cons r2
  obtain ⟨rfl, rfl, rfl⟩ := trodAll_nil r3
  obtain rfl : args = #[v0, v1, v2, v3] := by cases args; simp_all
  obtain ⟨rfl, rfl⟩ := trodVars_none hV
  obtain ⟨a0, len0, cap0, rfl⟩ := okWide_slice Try.underlying33 (hval 0 33 v0 rfl rfl)
  have k0 := h0
  have lt0 : ∀ x ∈ p0, x.block < W.heap.size := by obtain ⟨m, hm⟩ := k0; exact DataW.trod_lt m _ _ _ hm
  obtain ⟨x0, e0, R0, m0, b0⟩ : ∃ ns : List ByteArray, ns.length = len0 ∧ RD Value.string W (.slice a0 len0 cap0) ns ∧ len0 ≤ maxLen ∧ ∀ s ∈ ns, s.size ≤ maxLen := by
    obtain ⟨fuel, hf⟩ := h0
    rcases open_strings Try.underlying33 Try.underlying9 (by kernel_rfl) hf with ⟨hcs, _⟩ | ⟨x, l, c, ss, hcs, _, hl, hm, hz, _, hcell, hws⟩
    · simp [Value.cells] at hcs
      obtain ⟨rfl, rfl, rfl⟩ := hcs
      exact ⟨[], rfl, rd_nil _ _, Nat.zero_le _, fun s hs => by cases hs⟩
    · simp [Value.cells] at hcs
      obtain ⟨rfl, rfl, rfl⟩ := hcs
      obtain ⟨ns, g1, g2, g3⟩ := rd_strs hl (by simpa using hz) hcell hws
      exact ⟨ns, g1, g2, Nat.le_trans hl hm, g3⟩
  obtain ⟨a1, len1, cap1, rfl⟩ := okWide_slice Try.underlying33 (hval 1 33 v1 rfl rfl)
  have k1 := h1
  have lt1 : ∀ x ∈ p1, x.block < W.heap.size := by obtain ⟨m, hm⟩ := k1; exact DataW.trod_lt m _ _ _ hm
  obtain ⟨x1, e1, R1, m1, b1⟩ : ∃ ns : List ByteArray, ns.length = len1 ∧ RD Value.string W (.slice a1 len1 cap1) ns ∧ len1 ≤ maxLen ∧ ∀ s ∈ ns, s.size ≤ maxLen := by
    obtain ⟨fuel, hf⟩ := h1
    rcases open_strings Try.underlying33 Try.underlying9 (by kernel_rfl) hf with ⟨hcs, _⟩ | ⟨x, l, c, ss, hcs, _, hl, hm, hz, _, hcell, hws⟩
    · simp [Value.cells] at hcs
      obtain ⟨rfl, rfl, rfl⟩ := hcs
      exact ⟨[], rfl, rd_nil _ _, Nat.zero_le _, fun s hs => by cases hs⟩
    · simp [Value.cells] at hcs
      obtain ⟨rfl, rfl, rfl⟩ := hcs
      obtain ⟨ns, g1, g2, g3⟩ := rd_strs hl (by simpa using hz) hcell hws
      exact ⟨ns, g1, g2, Nat.le_trans hl hm, g3⟩
  obtain ⟨a2, len2, cap2, rfl⟩ := okWide_slice Try.underlying22 (hval 2 22 v2 rfl rfl)
  have k2 := h2
  have lt2 : ∀ x ∈ p2, x.block < W.heap.size := by obtain ⟨m, hm⟩ := k2; exact DataW.trod_lt m _ _ _ hm
  obtain ⟨x2, e2, R2, m2⟩ : ∃ xs : Bs, xs.length = len2 ∧ RD u8v W (.slice a2 len2 cap2) xs ∧ len2 ≤ maxLen := by
    obtain ⟨fuel, hf⟩ := h2
    rcases open_ints Try.underlying22 Try.underlying5 (by kernel_rfl) hf with ⟨hcs, _⟩ | ⟨x, l, c, zs, hcs, _, hl, hm, hz, _, hcell, hwz⟩
    · simp [Value.cells] at hcs
      obtain ⟨rfl, rfl, rfl⟩ := hcs
      exact ⟨[], rfl, rd_nil _ _, Nat.zero_le _⟩
    · simp [Value.cells] at hcs
      obtain ⟨rfl, rfl, rfl⟩ := hcs
      obtain ⟨xs, g1, g2⟩ := rd_bytes hl (by simpa using hz) hcell hwz
      exact ⟨xs, g1, g2, Nat.le_trans hl hm⟩
  obtain ⟨a3, len3, cap3, rfl⟩ := okWide_slice Try.underlying34 (hval 3 34 v3 rfl rfl)
  have k3 := h3
  have lt3 : ∀ x ∈ p3, x.block < W.heap.size := by obtain ⟨m, hm⟩ := k3; exact DataW.trod_lt m _ _ _ hm
  obtain ⟨x3, e3, R3, m3⟩ : ∃ xs : List Bool, xs.length = len3 ∧ RD Value.bool W (.slice a3 len3 cap3) xs ∧ len3 ≤ maxLen := by
    obtain ⟨fuel, hf⟩ := h3
    rcases Go.Deep.open_bools Try.underlying34 Try.underlying4 (by kernel_rfl) hf with ⟨hcs, _⟩ | ⟨x, l, c, B, hcs, _, hl, hm, _, hcell⟩
    · simp [Value.cells] at hcs
      obtain ⟨rfl, rfl, rfl⟩ := hcs
      exact ⟨[], rfl, rd_nil _ _, Nat.zero_le _⟩
    · simp [Value.cells] at hcs
      obtain ⟨rfl, rfl, rfl⟩ := hcs
      obtain ⟨xs, g1, g2⟩ := rd_bools hl hcell
      exact ⟨xs, g1, g2, Nat.le_trans hl hm⟩
  clear hA0 hval0
  refine (walk7 _ _ _ _ x0 x1 x2 x3 W R0 R1 R2 R3 (by omega) (by omega) (by omega) (by omega) b0 b1).mono fun e W' ⟨he, bel⟩ => ?_
  subst he
  exact ⟨_, rfl, _, _, _, [], _, [], hW', trodAll_mk1 (shut_bool Try.underlying4 _), (trodAll_cons_mk (Below.trod laidOut (by kernel_rfl) (of_decide_eq_true (by kernel_rfl)) k0 bel lt0) (trodAll_cons_mk (Below.trod laidOut (by kernel_rfl) (of_decide_eq_true (by kernel_rfl)) k1 bel lt1) (trodAll_cons_mk (Below.trod laidOut (by kernel_rfl) (of_decide_eq_true (by kernel_rfl)) k2 bel lt2) (trodAll_cons_mk (Below.trod laidOut (by kernel_rfl) (of_decide_eq_true (by kernel_rfl)) k3 bel lt3) trodAll_mk0)))), rfl, bel.frame _, fun h => by cases h⟩

theorem over : Rows.fnScanAttrsRecoversRenderedAttributesRow.holds Try.pinned (OpenSpec.ofChange Rows.fnScanAttrsRecoversRenderedAttributesSpec) :=
  OpenClaim.holds_of_wide 7 Try.f7 rfl rfl rfl rfl rfl rfl rfl ⟨rfl, rfl, rfl, rfl, rfl⟩ rfl rfl rfl rfl rfl (by kernel_rfl) Try.func7 (by kernel_rfl)
    (of_decide_eq_true (by kernel_rfl)) (by unfold Func.isWrapper; first | (rw [if_pos (by decide +kernel)]; kernel_rfl) | (rw [if_neg (by decide +kernel)]; exact ⟨rfl, rfl⟩))
    (fun os started H enc _ => lifted os started H enc)

theorem proved : Rows.FnScanAttrsRecoversRenderedAttributesSaid := over
end Go.Proofs.Qxb6000880a.fnScanAttrsRecoversRenderedAttributes
