import Derived.Test.Qxb6000995aW2
import Derived.Lib.IndexAny
set_option linter.unusedSimpArgs false
set_option linter.unusedVariables false
namespace Go.Proofs.Qxb6000995a
open Go.RowKit

def S (l : Bs) : ByteArray := ⟨l.toArray⟩
theorem S_data (l : Bs) : (S l).data.toList = l := rfl
theorem S_of (x : ByteArray) : x = S x.data.toList := by cases x; simp [S]
theorem S_eq {x : ByteArray} {l : Bs} (h : x.data.toList = l) : x = S l := by rw [← h]; exact S_of x
theorem ext_list (r : ByteArray) (a : Nat) : (r.extract a r.size).data.toList = r.data.toList.drop a := by
  have e : r = ⟨r.data.toList.toArray⟩ := by cases r; simp
  have hl := blen r
  have h2 : (r.extract a r.size) = ByteArray.mk ((r.data.toList.drop a).take (r.size - a)).toArray := by
    conv => lhs; arg 1; rw [e]
    rw [ByteArray.extract_mk]
    try simp
  rw [h2]
  show List.take (r.size - a) (r.data.toList.drop a) = _
  exact List.take_of_length_le (by simp [hl])
theorem ext_take (r : ByteArray) (a : Nat) : (r.extract 0 a).data.toList = r.data.toList.take a := by
  have e : r = ⟨r.data.toList.toArray⟩ := by cases r; simp
  rw [e, ByteArray.extract_mk]
  simp

def mi : Bs := [109, 101, 116, 97, 45, 105, 110, 102]
def metaOK (l : Bs) : Bool := decide (l[8]? = some 47 ∧ (l.take 8).map lowB = mi ∧ (47 : UInt8) ∉ l.drop 9)
def metaBase (l : Bs) : Bs := if metaOK l then l.drop 9 else []

theorem miUp : ([77, 69, 84, 65, 45, 73, 78, 70] : Bs).map lowB = mi := by decide

theorem metaInfFile_any (s : ByteArray) (hs : s.size ≤ 1000000) (w : World) :
    Calls Try.prog 27 #[.string s] w fun e w' => e = .returned (.tuple #[.string (S (metaBase s.data.toList)), .bool (metaOK s.data.toList)]) ∧ ∃ n, w' = w.drewN n := by
  have hl := blen s
  have hno : metaOK s.data.toList = false → metaBase s.data.toList = [] := fun h => by unfold metaBase; rw [h]; rfl
  by_cases h8 : 8 < s.size
  · by_cases h47 : s[8] = 47
    · have heq := fun w => equalFold_any (s.extract 0 8) ⟨#[77, 69, 84, 65, 45, 73, 78, 70]⟩ (by simp [ByteArray.size_extract]; omega) (by decide) w
      rw [ext_take, show (ByteArray.mk #[77, 69, 84, 65, 45, 73, 78, 70]).data.toList = ([77, 69, 84, 65, 45, 73, 78, 70] : Bs) from rfl, miUp] at heq
      have hg : s.data.toList[8]? = some 47 := by rw [lget s 8 h8, h47]
      have n1 : ((s[8].toNat : Int) != 47) = false := by rw [h47]; rfl
      have h8' : ¬ (s.size : Int) ≤ 8 := by omega
      by_cases hm : (s.data.toList.take 8).map lowB = mi
      · rw [decide_eq_true hm] at heq
        have hco := fun w => Try.strings_Contains_one (s.extract 9 s.size) 47 w
        rw [← Lib.contains_iff_indexByte, ext_list] at hco
        by_cases hc : (47 : UInt8) ∈ s.data.toList.drop 9
        · have hok : metaOK s.data.toList = false := by unfold metaOK; simp [hc]
          have HF : Hid (metaBase s.data.toList = [] ∧ metaOK s.data.toList = false) := ⟨hno hok, hok⟩
          rw [show (s.data.toList.drop 9).contains 47 = true from by simpa using hc] at hco
          clear hno h47 hg hm hc hok hl
          go_enter Try.func27, Try.ntmps27
          go_wp2_with (first | (go_at_call 28; refine (heq _).mono ?_; rintro e w2 ⟨rfl, n2, rfl⟩) | (go_at_call 31; refine (hco _).mono ?_; rintro e w3 ⟨rfl, rfl⟩))
          refine bodyPost_ret (results_tmp2 Try.results27 _ _ _) rfl ?_
          exact ⟨by rw [HF.out.1, HF.out.2]; rfl, n2, rfl⟩
        · have hok : metaOK s.data.toList = true := by unfold metaOK; simp [hc, hg, hm]
          have HF : Hid (s.extract 9 s.size = S (metaBase s.data.toList) ∧ metaOK s.data.toList = true) := ⟨S_eq (by rw [ext_list]; unfold metaBase; rw [hok]; rfl), hok⟩
          rw [show (s.data.toList.drop 9).contains 47 = false from by simpa using hc] at hco
          clear hno h47 hg hm hc hok hl
          go_enter Try.func27, Try.ntmps27
          go_wp2_with (first | (go_at_call 28; refine (heq _).mono ?_; rintro e w2 ⟨rfl, n2, rfl⟩) | (go_at_call 31; refine (hco _).mono ?_; rintro e w3 ⟨rfl, rfl⟩))
          refine bodyPost_ret (results_tmp2 Try.results27 _ _ _) rfl ?_
          exact ⟨by rw [← HF.out.1, HF.out.2]; rfl, n2, rfl⟩
      · rw [decide_eq_false hm] at heq
        have hok : metaOK s.data.toList = false := by unfold metaOK; rw [decide_eq_false_iff_not]; exact fun h => hm h.2.1
        have HF : Hid (metaBase s.data.toList = [] ∧ metaOK s.data.toList = false) := ⟨hno hok, hok⟩
        clear hno h47 hg hm hok hl
        go_enter Try.func27, Try.ntmps27
        go_wp2_with (first | (go_at_call 28; refine (heq _).mono ?_; rintro e w2 ⟨rfl, n2, rfl⟩))
        refine bodyPost_ret (results_tmp2 Try.results27 _ _ _) rfl ?_
        exact ⟨by rw [HF.out.1, HF.out.2]; rfl, n2, rfl⟩
    · have hok : metaOK s.data.toList = false := by unfold metaOK; rw [lget s 8 h8]; simp [h47]
      have HF : Hid (metaBase s.data.toList = [] ∧ metaOK s.data.toList = false) := ⟨hno hok, hok⟩
      have n1 : ((s[8].toNat : Int) != 47) = true := by rw [bne_iff_ne]; intro e; apply h47; apply UInt8.toNat_inj.1; show s[8].toNat = 47; omega
      have h8' : ¬ (s.size : Int) ≤ 8 := by omega
      clear hno h47 hok hl
      go_enter Try.func27, Try.ntmps27
      go_wp2
      refine bodyPost_ret (results_tmp2 Try.results27 _ _ _) rfl ?_
      exact ⟨by rw [HF.out.1, HF.out.2]; rfl, 0, rfl⟩
  · have hok : metaOK s.data.toList = false := by unfold metaOK; rw [List.getElem?_eq_none (by omega)]; simp
    have HF : Hid (metaBase s.data.toList = [] ∧ metaOK s.data.toList = false) := ⟨hno hok, hok⟩
    have h8' : (s.size : Int) ≤ 8 := by omega
    clear hno hok hl
    go_enter Try.func27, Try.ntmps27
    go_wp2
    refine bodyPost_ret (results_tmp2 Try.results27 _ _ _) rfl ?_
    exact ⟨by rw [HF.out.1, HF.out.2]; rfl, 0, rfl⟩

theorem zzMeta_any (s : ByteArray) (hs : s.size ≤ 1000000) (w : World) :
    Calls Try.prog 17 #[.string s] w fun e w' => e = .returned (.tuple #[.string (S (metaBase s.data.toList)), .bool (metaOK s.data.toList)]) ∧ ∃ n, w' = w.drewN n := by
  have h := fun w => metaInfFile_any s hs w
  generalize metaBase s.data.toList = mb at *
  generalize metaOK s.data.toList = mo at *
  go_enter Try.func17, Try.ntmps17
  go_wp2_with (first | (go_at_call 27; refine (h _).mono ?_; rintro e w2 ⟨rfl, n2, rfl⟩))
  refine bodyPost_ret (results_tmp2 Try.results17 _ _ _) rfl ?_
  exact ⟨rfl, n2, rfl⟩

theorem zzBytes18_any (s : ByteArray) (hs : s.size ≤ maxLen) (w : World) : Calls Try.prog 18 #[.string s] w fun e w' => e = .returned (.bool (decide (s.size ≤ 1048576))) ∧ w' = w := by
  unfold maxLen at hs
  by_cases h : s.size ≤ 1048576
  · have H : Hid (decide (s.size ≤ 1048576) = true) := decide_eq_true h
    go_enter Try.func18, Try.ntmps18
    go_wp2
    go_ret
    exact ⟨by rw [H.out]; rfl, rfl⟩
  · have H : Hid (decide (s.size ≤ 1048576) = false) := decide_eq_false h
    go_enter Try.func18, Try.ntmps18
    go_wp2
    go_ret
    exact ⟨by rw [H.out]; rfl, rfl⟩

/-- the plain law -/
theorem want_eq (l : Bs) : metaOK l = (decide (l.count 47 = 1) && decide (fstS l = 8) && decide ((l.take 8).map lowB = mi)) := by
  have hlow : ∀ m : Bs, m.map lowB = mi → (47 : UInt8) ∉ m := by
    intro m h hm
    have : lowB 47 ∈ m.map lowB := List.mem_map_of_mem hm
    rw [h] at this
    revert this
    decide
  have hsplit : l[8]? = some 47 → l = l.take 8 ++ 47 :: l.drop 9 := by
    intro h
    have hlt : 8 < l.length := by
      rcases Nat.lt_or_ge 8 l.length with h' | h'
      · exact h'
      · rw [List.getElem?_eq_none h'] at h; simp at h
    rw [List.getElem?_eq_getElem hlt] at h
    conv => lhs; rw [← List.take_append_drop 8 l, List.drop_eq_getElem_cons hlt, Option.some.inj h]
  rw [Bool.eq_iff_iff]
  simp only [metaOK, decide_eq_true_eq, Bool.and_eq_true]
  constructor
  · rintro ⟨h8, hm, hd⟩
    have hn := hlow _ hm
    refine ⟨⟨?_, ?_⟩, hm⟩
    · conv => lhs; rw [hsplit h8]
      rw [List.count_append, List.count_eq_zero_of_not_mem hn, List.count_cons, List.count_eq_zero_of_not_mem hd]
      simp
    · refine fst_at l 8 ?_ h8
      intro j hj e
      apply hn
      have : (l.take 8)[j]? = some 47 := by rw [List.getElem?_take_of_lt hj]; exact e
      exact List.mem_of_getElem? this
  · rintro ⟨⟨hc, hf⟩, hm⟩
    have h8 : l[8]? = some 47 := by
      unfold fstS at hf
      split at hf
      · rename_i hlt
        have e8 : (l.takeWhile (fun c => c != 47)).length = 8 := by omega
        rw [e8] at hlt
        have h1 : l = l.takeWhile (fun c => c != 47) ++ l.dropWhile (fun c => c != 47) := (List.takeWhile_append_dropWhile).symm
        have h2 : l[8]? = (l.dropWhile (fun c => c != 47))[0]? := by
          conv => lhs; rw [h1]
          rw [List.getElem?_append_right (by omega), e8]
        have hne : l.dropWhile (fun c => c != 47) ≠ [] := by
          intro e
          rw [e, List.append_nil] at h1
          have := congrArg List.length h1
          omega
        have h3 := List.head_dropWhile_not (p := fun c : UInt8 => c != 47) hne
        rw [h2, ← List.head?_eq_getElem?, List.head?_eq_some_head hne]
        simpa using h3
      · omega
    refine ⟨h8, hm, ?_⟩
    intro hd
    have h1 : l.count 47 = (l.take 8).count 47 + (47 :: l.drop 9).count 47 := by
      conv => lhs; rw [hsplit h8]
      rw [List.count_append]
    rw [List.count_cons_self] at h1
    have := List.count_pos_iff.2 hd
    omega
end Go.Proofs.Qxb6000995a
