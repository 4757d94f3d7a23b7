import Derived.Test.Qxb6000880aW1
set_option linter.unusedSimpArgs false
set_option linter.unusedVariables false
namespace Go.Proofs.Qxb6000880a
open Go.RowKit

def tl (xs : List ByteArray) : Nat := (xs.map ByteArray.size).sum
theorem tl_snoc (xs : List ByteArray) (k : Nat) (h : k < xs.length) : tl (xs.take (k + 1)) = tl (xs.take k) + xs[k].size := by
  rw [take_snoc xs k h]; simp only [tl, List.map_append, List.sum_append, List.map_cons, List.map_nil, List.sum_cons, List.sum_nil, Nat.add_zero]
theorem tl_zero (xs : List ByteArray) : tl (xs.take 0) = 0 := by simp [tl]
theorem tl_split (xs : List ByteArray) (k : Nat) : tl xs = tl (xs.take k) + tl (xs.drop k) := by
  conv => lhs; rw [← List.take_append_drop k xs]
  simp only [tl, List.map_append, List.sum_append]
theorem tl_le (xs : List ByteArray) (k : Nat) : tl (xs.take k) ≤ tl xs := by rw [tl_split xs k]; omega
theorem tl_le1 (xs : List ByteArray) (k : Nat) (h : k < xs.length) : tl (xs.take k) + xs[k].size ≤ tl xs := by rw [← tl_snoc xs k h]; exact tl_le _ _

set_option maxRecDepth 100000 in
set_option maxHeartbeats 4000000 in
theorem zzBytes_any (ns vs : List ByteArray) (v0 v1 : Value) (a2 a3 : Option Addr) (n2 c2 n3 c3 : Nat) (w : World) (h0 : RD Value.string w v0 ns) (h1 : RD Value.string w v1 vs) (l0 : ns.length ≤ maxLen) (l1 : vs.length ≤ maxLen) (l2 : n2 ≤ maxLen) (l3 : n3 ≤ maxLen)
    (h0s : ∀ s ∈ ns, s.size ≤ maxLen) (h1s : ∀ s ∈ vs, s.size ≤ maxLen) :
    Calls Try.prog 18 #[v0, v1, .slice a2 n2 c2, .slice a3 n3 c3] w fun e w' => e = .returned (.bool (decide (ns.length + tl ns + vs.length + tl vs + n2 + n3 ≤ 1048576))) ∧ w' = w := by
  obtain ⟨a0, c0, rfl, hc0, h0⟩ := h0
  obtain ⟨a1, c1, rfl, hc1, h1⟩ := h1
  unfold maxLen at l0 l1 l2 l3 h0s h1s
  obtain ⟨T, HTT⟩ : ∃ T : Bool, Hid (decide (ns.length + tl ns + vs.length + tl vs + n2 + n3 ≤ 1048576) = T) := ⟨_, rfl⟩
  rw [HTT.out]
  have HF : Hid (¬ (ns.length + tl ns + vs.length + tl vs + n2 + n3 ≤ 1048576) → T = false) := by intro h; rw [← HTT.out]; exact decide_eq_false h
  have HT : Hid ((ns.length + tl ns + vs.length + tl vs + n2 + n3 ≤ 1048576) → T = true) := by intro h; rw [← HTT.out]; exact decide_eq_true h
  clear HTT
  by_cases g0 : ns.length ≤ 1048576
  case neg =>
    have H9 : Hid (T = false) := HF.out (by omega)
    clear HF HT
    go_enter Try.func18, Try.ntmps18
    go_wp2
    go_ret
    exact ⟨by rw [H9.out]; rfl, rfl⟩
  go_enter Try.func18, Try.ntmps18
  go_wp2_with fail
  go_loopg [9, 10] ns.length (fun g zn i wx => ∃ k : Nat, k + g = ns.length ∧ i = .int .i64 k ∧ zn = .int .i64 (((ns.length + tl (ns.take k) : Nat)) : Int) ∧ ns.length + tl (ns.take k) ≤ 1048576 ∧ w = wx)
  case atStart => exact ⟨0, by omega, rfl, by rw [tl_zero]; go_num, by rw [tl_zero]; omega, rfl⟩
  case round =>
    obtain ⟨k, hkg, rfl, rfl, hzn, rfl⟩ := hrel
    by_cases hlt : k < ns.length
    · rcases h0 with ⟨_, rfl, _⟩ | ⟨x, rfl, hx⟩
      · simp at hlt
      have hcell := hx k hlt
      have htl := tl_le1 ns k hlt
      have hsn := tl_snoc ns k hlt
      have hms := h0s ns[k] (List.getElem_mem hlt)
      clear hx
      obtain ⟨tk, HTK⟩ : ∃ tk, Hid (tk = tl (ns.take k)) := ⟨_, rfl⟩
      rw [← HTK.out] at hzn htl hsn ⊢
      generalize ns[k] = sk at *
      by_cases q1 : sk.size ≤ 1048576
      · by_cases q2 : ns.length + tk + sk.size ≤ 1048576
        · go_wp2
          go_roundg (gk - 1)
          case measure => omega
          case rel => exact ⟨k + 1, by omega, by go_num, by rw [hsn]; go_num, by rw [hsn]; omega, rfl⟩
        · have H9 : Hid (T = false) := HF.out (by omega)
          clear HF HT
          go_wp2
          go_ret
          exact ⟨by rw [H9.out]; rfl, rfl⟩
      · have H9 : Hid (T = false) := HF.out (by omega)
        clear HF HT
        go_wp2
        go_ret
        exact ⟨by rw [H9.out]; rfl, rfl⟩
    · obtain rfl : k = ns.length := by omega
      rw [List.take_length] at hzn ⊢
      by_cases g1 : vs.length ≤ 1048576
      case neg =>
        have H9 : Hid (T = false) := HF.out (by omega)
        clear HF HT
        go_wp2
        go_ret
        exact ⟨by rw [H9.out]; rfl, rfl⟩
      by_cases g2 : ns.length + tl ns + vs.length ≤ 1048576
      case neg =>
        have H9 : Hid (T = false) := HF.out (by omega)
        clear HF HT
        go_wp2
        go_ret
        exact ⟨by rw [H9.out]; rfl, rfl⟩
      go_wp2_with fail
      go_loopg [9, 11] vs.length (fun g zn i wx => ∃ k : Nat, k + g = vs.length ∧ i = .int .i64 k ∧ zn = .int .i64 (((ns.length + tl ns + vs.length + tl (vs.take k) : Nat)) : Int) ∧ ns.length + tl ns + vs.length + tl (vs.take k) ≤ 1048576 ∧ w = wx)
      case atStart => exact ⟨0, by omega, rfl, by rw [tl_zero]; go_num, by rw [tl_zero]; omega, rfl⟩
      case round =>
        obtain ⟨k, hkg, rfl, rfl, hzn, rfl⟩ := hrel
        by_cases hlt : k < vs.length
        · rcases h1 with ⟨_, rfl, _⟩ | ⟨x, rfl, hx⟩
          · simp at hlt
          have hcell := hx k hlt
          have htl := tl_le1 vs k hlt
          have hsn := tl_snoc vs k hlt
          have hms := h1s vs[k] (List.getElem_mem hlt)
          clear hx
          obtain ⟨tk, HTK⟩ : ∃ tk, Hid (tk = tl (vs.take k)) := ⟨_, rfl⟩
          rw [← HTK.out] at hzn htl hsn ⊢
          generalize vs[k] = sk at *
          by_cases q1 : sk.size ≤ 1048576
          · by_cases q2 : ns.length + tl ns + vs.length + tk + sk.size ≤ 1048576
            · go_wp2
              go_roundg (gk - 1)
              case measure => omega
              case rel => exact ⟨k + 1, by omega, by go_num, by rw [hsn]; go_num, by rw [hsn]; omega, rfl⟩
            · have H9 : Hid (T = false) := HF.out (by omega)
              clear HF HT
              go_wp2
              go_ret
              exact ⟨by rw [H9.out]; rfl, rfl⟩
          · have H9 : Hid (T = false) := HF.out (by omega)
            clear HF HT
            go_wp2
            go_ret
            exact ⟨by rw [H9.out]; rfl, rfl⟩
        · obtain rfl : k = vs.length := by omega
          rw [List.take_length] at hzn ⊢
          by_cases g3 : n2 ≤ 1048576
          case neg =>
            have H9 : Hid (T = false) := HF.out (by omega)
            clear HF HT
            go_wp2
            go_ret
            exact ⟨by rw [H9.out]; rfl, rfl⟩
          by_cases g4 : ns.length + tl ns + vs.length + tl vs + n2 ≤ 1048576
          case neg =>
            have H9 : Hid (T = false) := HF.out (by omega)
            clear HF HT
            go_wp2
            go_ret
            exact ⟨by rw [H9.out]; rfl, rfl⟩
          by_cases g5 : n3 ≤ 1048576
          case neg =>
            have H9 : Hid (T = false) := HF.out (by omega)
            clear HF HT
            go_wp2
            go_ret
            exact ⟨by rw [H9.out]; rfl, rfl⟩
          by_cases g6 : ns.length + tl ns + vs.length + tl vs + n2 + n3 ≤ 1048576
          case neg =>
            have H9 : Hid (T = false) := HF.out (by omega)
            clear HF HT
            go_wp2
            go_ret
            exact ⟨by rw [H9.out]; rfl, rfl⟩
          have H9 : Hid (T = true) := HT.out (by omega)
          clear HF HT
          go_wp2
          go_ret
          exact ⟨by rw [H9.out]; rfl, rfl⟩

set_option maxRecDepth 100000 in
set_option maxHeartbeats 4000000 in
theorem sizeOK_any (ns vs : List ByteArray) (v0 v1 : Value) (a2 a3 : Option Addr) (n2 c2 n3 c3 : Nat) (w : World) (h0 : RD Value.string w v0 ns) (h1 : RD Value.string w v1 vs) (l0 : ns.length ≤ maxLen) (l1 : vs.length ≤ maxLen) (l2 : n2 ≤ maxLen) (l3 : n3 ≤ maxLen)
    (h0s : ∀ s ∈ ns, s.size ≤ maxLen) (h1s : ∀ s ∈ vs, s.size ≤ maxLen) :
    Calls Try.prog 19 #[v0, v1, .slice a2 n2 c2, .slice a3 n3 c3] w fun e w' => e = .returned (.bool (decide (ns.length ≤ 65536 ∧ vs.length ≤ 65536 ∧ n2 ≤ 65536 ∧ n3 ≤ 65536 ∧ 16 * ns.length + 16 * vs.length + n2 + n3 + tl ns + tl vs ≤ 1048576))) ∧ w' = w := by
  obtain ⟨a0, c0, rfl, hc0, h0⟩ := h0
  obtain ⟨a1, c1, rfl, hc1, h1⟩ := h1
  unfold maxLen at l0 l1 l2 l3 h0s h1s
  obtain ⟨T, HTT⟩ : ∃ T : Bool, Hid (decide (ns.length ≤ 65536 ∧ vs.length ≤ 65536 ∧ n2 ≤ 65536 ∧ n3 ≤ 65536 ∧ 16 * ns.length + 16 * vs.length + n2 + n3 + tl ns + tl vs ≤ 1048576) = T) := ⟨_, rfl⟩
  rw [HTT.out]
  have HF : Hid (¬ (ns.length ≤ 65536 ∧ vs.length ≤ 65536 ∧ n2 ≤ 65536 ∧ n3 ≤ 65536 ∧ 16 * ns.length + 16 * vs.length + n2 + n3 + tl ns + tl vs ≤ 1048576) → T = false) := by intro h; rw [← HTT.out]; exact decide_eq_false h
  have HT : Hid ((ns.length ≤ 65536 ∧ vs.length ≤ 65536 ∧ n2 ≤ 65536 ∧ n3 ≤ 65536 ∧ 16 * ns.length + 16 * vs.length + n2 + n3 + tl ns + tl vs ≤ 1048576) → T = true) := by intro h; rw [← HTT.out]; exact decide_eq_true h
  clear HTT
  by_cases g0 : ns.length ≤ 65536
  case neg =>
    have H9 : Hid (T = false) := HF.out (by omega)
    clear HF HT
    go_enter Try.func19, Try.ntmps19
    go_wp2
    go_ret
    exact ⟨by rw [H9.out]; rfl, rfl⟩
  by_cases g1 : vs.length ≤ 65536
  case neg =>
    have H9 : Hid (T = false) := HF.out (by omega)
    clear HF HT
    go_enter Try.func19, Try.ntmps19
    go_wp2
    go_ret
    exact ⟨by rw [H9.out]; rfl, rfl⟩
  by_cases g2 : n2 ≤ 65536
  case neg =>
    have H9 : Hid (T = false) := HF.out (by omega)
    clear HF HT
    go_enter Try.func19, Try.ntmps19
    go_wp2
    go_ret
    exact ⟨by rw [H9.out]; rfl, rfl⟩
  by_cases g3 : n3 ≤ 65536
  case neg =>
    have H9 : Hid (T = false) := HF.out (by omega)
    clear HF HT
    go_enter Try.func19, Try.ntmps19
    go_wp2
    go_ret
    exact ⟨by rw [H9.out]; rfl, rfl⟩
  by_cases g4 : 16 * ns.length + 16 * vs.length + n2 + n3 ≤ 1048576
  case neg =>
    have H9 : Hid (T = false) := HF.out (by omega)
    clear HF HT
    go_enter Try.func19, Try.ntmps19
    go_wp2
    go_ret
    exact ⟨by rw [H9.out]; rfl, rfl⟩
  go_enter Try.func19, Try.ntmps19
  go_wp2_with fail
  go_loopg [9, 10] ns.length (fun g zn i wx => ∃ k : Nat, k + g = ns.length ∧ i = .int .i64 k ∧ zn = .int .i64 (((16 * ns.length + 16 * vs.length + n2 + n3 + tl (ns.take k) : Nat)) : Int) ∧ 16 * ns.length + 16 * vs.length + n2 + n3 + tl (ns.take k) ≤ 1048576 ∧ w = wx)
  case atStart => exact ⟨0, by omega, rfl, by rw [tl_zero]; go_num, by rw [tl_zero]; omega, rfl⟩
  case round =>
    obtain ⟨k, hkg, rfl, rfl, hzn, rfl⟩ := hrel
    by_cases hlt : k < ns.length
    · rcases h0 with ⟨_, rfl, _⟩ | ⟨x, rfl, hx⟩
      · simp at hlt
      have hcell := hx k hlt
      have htl := tl_le1 ns k hlt
      have hsn := tl_snoc ns k hlt
      have hms := h0s ns[k] (List.getElem_mem hlt)
      clear hx
      obtain ⟨tk, HTK⟩ : ∃ tk, Hid (tk = tl (ns.take k)) := ⟨_, rfl⟩
      rw [← HTK.out] at hzn htl hsn ⊢
      generalize ns[k] = sk at *
      by_cases q1 : sk.size ≤ 1048576
      · by_cases q2 : 16 * ns.length + 16 * vs.length + n2 + n3 + tk + sk.size ≤ 1048576
        · go_wp2
          go_roundg (gk - 1)
          case measure => omega
          case rel => exact ⟨k + 1, by omega, by go_num, by rw [hsn]; go_num, by rw [hsn]; omega, rfl⟩
        · have H9 : Hid (T = false) := HF.out (by omega)
          clear HF HT
          go_wp2
          go_ret
          exact ⟨by rw [H9.out]; rfl, rfl⟩
      · have H9 : Hid (T = false) := HF.out (by omega)
        clear HF HT
        go_wp2
        go_ret
        exact ⟨by rw [H9.out]; rfl, rfl⟩
    · obtain rfl : k = ns.length := by omega
      rw [List.take_length] at hzn ⊢
      go_wp2_with fail
      go_loopg [9, 11] vs.length (fun g zn i wx => ∃ k : Nat, k + g = vs.length ∧ i = .int .i64 k ∧ zn = .int .i64 (((16 * ns.length + 16 * vs.length + n2 + n3 + tl ns + tl (vs.take k) : Nat)) : Int) ∧ 16 * ns.length + 16 * vs.length + n2 + n3 + tl ns + tl (vs.take k) ≤ 1048576 ∧ w = wx)
      case atStart => exact ⟨0, by omega, rfl, by rw [tl_zero]; go_num, by rw [tl_zero]; omega, rfl⟩
      case round =>
        obtain ⟨k, hkg, rfl, rfl, hzn, rfl⟩ := hrel
        by_cases hlt : k < vs.length
        · rcases h1 with ⟨_, rfl, _⟩ | ⟨x, rfl, hx⟩
          · simp at hlt
          have hcell := hx k hlt
          have htl := tl_le1 vs k hlt
          have hsn := tl_snoc vs k hlt
          have hms := h1s vs[k] (List.getElem_mem hlt)
          clear hx
          obtain ⟨tk, HTK⟩ : ∃ tk, Hid (tk = tl (vs.take k)) := ⟨_, rfl⟩
          rw [← HTK.out] at hzn htl hsn ⊢
          generalize vs[k] = sk at *
          by_cases q1 : sk.size ≤ 1048576
          · by_cases q2 : 16 * ns.length + 16 * vs.length + n2 + n3 + tl ns + tk + sk.size ≤ 1048576
            · go_wp2
              go_roundg (gk - 1)
              case measure => omega
              case rel => exact ⟨k + 1, by omega, by go_num, by rw [hsn]; go_num, by rw [hsn]; omega, rfl⟩
            · have H9 : Hid (T = false) := HF.out (by omega)
              clear HF HT
              go_wp2
              go_ret
              exact ⟨by rw [H9.out]; rfl, rfl⟩
          · have H9 : Hid (T = false) := HF.out (by omega)
            clear HF HT
            go_wp2
            go_ret
            exact ⟨by rw [H9.out]; rfl, rfl⟩
        · obtain rfl : k = vs.length := by omega
          rw [List.take_length] at hzn ⊢
          have H9 : Hid (T = true) := HT.out (by omega)
          clear HF HT
          go_wp2
          go_ret
          exact ⟨by rw [H9.out]; rfl, rfl⟩
end Go.Proofs.Qxb6000880a
