import Derived.Test.Qxb6000768aX2
import Derived.Deep.CutBlock
set_option linter.unusedSimpArgs false
set_option linter.unusedVariables false
namespace Go.Proofs.Qxb6000768a
open Go.RowKit

theorem zzIndexByte_any (s : ByteArray) (c : UInt8) (hs : s.size ≤ 100000000) (w : World) :
    Calls Try.prog 32 #[.string s, .int .u8 (c.toNat : Int)] w fun e w' => e = .returned (.int .i64 (if upTo [c] s.data.toList < s.data.toList.length then (upTo [c] s.data.toList : Int) else -1)) ∧ w' = w := by
  have HV : Hid (∀ k : Nat, k ≤ s.size → (∀ (j : Nat) (b : UInt8), j < k → s.data.toList[j]? = some b → ([c] : Bs).contains b = false) → (k = s.size ∨ s.data.toList[k]? = some c) → upTo [c] s.data.toList = k) := by
    intro k hk hb he
    refine upTo_eq [c] _ k (by rw [blen]; exact hk) hb ?_
    rcases he with he | he
    · exact .inl (by rw [blen]; exact he)
    · exact .inr ⟨c, he, by simp⟩
  generalize hr : (if upTo [c] s.data.toList < s.data.toList.length then (upTo [c] s.data.toList : Int) else -1) = r at *
  have HR : Hid ((if upTo [c] s.data.toList < s.data.toList.length then (upTo [c] s.data.toList : Int) else -1) = r) := hr
  clear hr
  go_enter Try.func32, Try.ntmps32
  go_wp2
  go_loop [5] (fun i => ∃ k : Nat, k ≤ s.size ∧ i = .int .i64 k ∧ ∀ (j : Nat) (b : UInt8), j < k → s.data.toList[j]? = some b → ([c] : Bs).contains b = false) (fun i => s.size - (intOf i).toNat)
  case atStart => exact ⟨0, Nat.zero_le _, rfl, fun j b hj => absurd hj (by omega)⟩
  case round =>
    obtain ⟨k, hk, rfl, hn⟩ := hrel
    have HN : Hid (∀ (j : Nat) (b : UInt8), j < k → s.data.toList[j]? = some b → ([c] : Bs).contains b = false) := hn
    clear hn
    by_cases hlt : k < s.size
    · by_cases he : s[k] = c
      · have hb : ((s[k].toNat : Int) == (c.toNat : Int)) = true := by rw [he]; simp
        have HF : Hid (r = k) := by
          have h1 := HR.out
          rw [HV.out k hk HN.out (.inr (by rw [lget s k hlt, he]))] at h1
          rw [if_pos (by rw [blen]; exact hlt)] at h1; exact h1.symm
        clear he
        go_wp2
        go_ret
        exact ⟨by rw [HF.out]; rfl, rfl⟩
      · have hb : ((s[k].toNat : Int) == (c.toNat : Int)) = false := by
          rw [beq_eq_false_iff_ne]; intro e; exact he (UInt8.toNat_inj.1 (by omega))
        have HE : Hid (s[k] ≠ c) := he
        clear he
        go_wp2
        go_round
        case rel =>
          refine ⟨k + 1, by omega, by go_num, ?_⟩
          intro j b hj hbb
          by_cases hjk : j < k
          · exact HN.out j b hjk hbb
          · obtain rfl : j = k := by omega
            rw [lget s j hlt] at hbb
            cases hbb
            simpa using HE.out
        case measure => simp [intOf]; omega
    · have HF : Hid (r = -1) := by
        have h1 := HR.out
        rw [HV.out k hk HN.out (.inl (by omega))] at h1
        rw [if_neg (by rw [blen]; omega)] at h1; exact h1.symm
      go_wp2
      go_ret
      exact ⟨by rw [HF.out]; rfl, rfl⟩

/-- the cells of a 'zzRef' -/
def zrCells (sc au pa qu : Bs) (hs ha hq : Bool) : Array Value := #[.string (S sc), .string (S au), .string (S pa), .string (S qu), .bool hs, .bool ha, .bool hq]

theorem bn_no {c d : UInt8} (h : c ≠ d) (m : Int) (hm : m = d.toNat) : ((c.toNat : Int) != m) = true := by
  rw [bne_iff_ne]; intro e; apply h; apply UInt8.toNat_inj.1; omega
theorem bn_yes {c d : UInt8} (h : c = d) (m : Int) (hm : m = d.toNat) : ((c.toNat : Int) != m) = false := by
  rw [h, hm]; simp

/-- what holds between zzParse's statements -/
def ZpI (w : World) (B : Nat) (l sc au qu : Bs) (hs ha hq : Bool) (s0 : Value) (wx : World) : Prop :=
  s0 = .string (S l) ∧ Blk wx (B + 1) (zrCells sc au [] qu hs ha hq) 27 ∧ Blk wx B (zrCells [] [] [] [] false false false) 27 ∧ Below B w wx

theorem pfx2_short (l : Bs) (h : l.length < 2) : List.isPrefixOf [47, 47] l = false := by
  match l, h with
  | [], _ => rfl
  | [a], _ => simp [List.isPrefixOf]
theorem pfx2_long (x : ByteArray) (h0 : 0 < x.size) (h1 : 1 < x.size) : List.isPrefixOf [47, 47] x.data.toList = (x[0] == 47 && x[1] == 47) := by
  have e0 := lget x 0 h0
  have e1 := lget x 1 h1
  cases hl : x.data.toList with
  | nil => rw [hl] at e0; simp at e0
  | cons a t =>
    cases t with
    | nil => rw [hl] at e1; simp at e1
    | cons b t =>
      rw [hl] at e0 e1
      simp at e0 e1
      rw [← e0, ← e1]
      simp only [List.isPrefixOf, Bool.and_true]
      rw [Bool.beq_comm (a := a), Bool.beq_comm (a := b)]
theorem ca_bool (l : Bs) : (cutAuth l).2.2 = List.isPrefixOf [47, 47] l := by
  unfold cutAuth
  cases List.isPrefixOf [47, 47] l <;> rfl

/-- the round of a loop that seeks a byte among cs -/
theorem among4 (c : UInt8) : ([58, 47, 63, 35] : Bs).contains c = true ↔ (c = 58 ∨ c = 47 ∨ c = 63 ∨ c = 35) := by
  simp [List.contains_cons, or_assoc]
theorem among3 (c : UInt8) : ([47, 63, 35] : Bs).contains c = true ↔ (c = 47 ∨ c = 63 ∨ c = 35) := by
  simp [List.contains_cons, or_assoc]

theorem ret17 {Q : Ending → World → Prop} {a : Act} {W : World} {B : Nat} {sc au pa qu : Bs} {bs ba bq : Bool} (hd : a.defers = []) (hs : a.tmps[2]?.getD undef = .pointer (some ⟨B, 0, none⟩)) (hW : Blk W B (zrCells sc au pa qu bs ba bq) 27)
    (h : Q (.returned (.agg (zrCells sc au pa qu bs ba bq))) W) : bodyPost Try.prog Try.f17 Q Exit.ret a W := by
  have e0 := hW.cell 0
  have e1 := hW.cell 1
  have e2 := hW.cell 2
  have e3 := hW.cell 3
  have e4 := hW.cell 4
  have e5 := hW.cell 5
  have e6 := hW.cell 6
  simp [zrCells] at e0 e1 e2 e3 e4 e5 e6
  exact bodyPost_ret (v := .agg (zrCells sc au pa qu bs ba bq)) (by simp [results, Try.results17, hs, go_sem, zrCells, e0, e1, e2, e3, e4, e5, e6]) hd h
theorem fin7z {wx : World} {B : Nat} {cs : Array Value} (k0 : Blk wx B cs 27) (hc : cs.size = 7) (x0 x1 x2 x3 x4 x5 x6 : Value) :
    Blk (((((((wx.setCell ⟨B, 0, none⟩ x0).setCell ⟨B, 1, none⟩ x1).setCell ⟨B, 2, none⟩ x2).setCell ⟨B, 3, none⟩ x3).setCell ⟨B, 4, none⟩ x4).setCell ⟨B, 5, none⟩ x5).setCell ⟨B, 6, none⟩ x6) B #[x0, x1, x2, x3, x4, x5, x6] 27 := by
  have s6 := ((((((k0.set 0 x0).set 1 x1).set 2 x2).set 3 x3).set 4 x4).set 5 x5).set 6 x6
  refine Eq.mp (congrArg (fun cs => Blk _ B cs 27) ?_) s6
  apply Array.ext
  · simp [hc]
  · intro i h1 h2
    have h7 : i < 7 := by simpa using h2
    have : i = 0 ∨ i = 1 ∨ i = 2 ∨ i = 3 ∨ i = 4 ∨ i = 5 ∨ i = 6 := by omega
    rcases this with rfl | rfl | rfl | rfl | rfl | rfl | rfl <;> simp [hc]
theorem below7z {w wx : World} {B : Nat} (h : Below B w wx) (x0 x1 x2 x3 x4 x5 x6 : Value) :
    Below B w (((((((wx.setCell ⟨B, 0, none⟩ x0).setCell ⟨B, 1, none⟩ x1).setCell ⟨B, 2, none⟩ x2).setCell ⟨B, 3, none⟩ x3).setCell ⟨B, 4, none⟩ x4).setCell ⟨B, 5, none⟩ x5).setCell ⟨B, 6, none⟩ x6) :=
  ((((((h.setCell (Nat.le_refl _) _).setCell (Nat.le_refl _) _).setCell (Nat.le_refl _) _).setCell (Nat.le_refl _) _).setCell (Nat.le_refl _) _).setCell (Nat.le_refl _) _).setCell (Nat.le_refl _) _

set_option maxRecDepth 1000000 in
set_option maxHeartbeats 1000000 in
theorem zzParse_any (s : ByteArray) (hs : s.size ≤ 10000000) (w : World) :
    Calls Try.prog 17 #[.string s] w fun e w' => e = .returned (.agg (zrCells (parse s.data.toList).scheme (parse s.data.toList).authority (parse s.data.toList).path (parse s.data.toList).query (parse s.data.toList).hs (parse s.data.toList).ha (parse s.data.toList).hq)) ∧ Below w.heap.size w w' := by
  go_enter Try.func17, Try.ntmps17
  go_upto_block 0 with fail
  generalize hu : upTo [58, 47, 63, 35] s.data.toList = u at *
  have HV : Hid (∀ k : Nat, k ≤ s.size → (∀ (j : Nat) (b : UInt8), j < k → s.data.toList[j]? = some b → ([58, 47, 63, 35] : Bs).contains b = false) → (k = s.size ∨ ∃ b, s.data.toList[k]? = some b ∧ ([58, 47, 63, 35] : Bs).contains b = true) → k = u) := by
    intro k hk hb he
    rw [← hu]
    refine (upTo_eq _ _ k (by rw [blen]; exact hk) hb ?_).symm
    rcases he with he | he
    · exact .inl (by rw [blen]; exact he)
    · exact .inr he
  have HU : Hid (upTo [58, 47, 63, 35] s.data.toList = u) := hu
  clear hu
  have hS1 : ZpI w w.heap.size s.data.toList [] [] [] false false false (.string s) ((w.alloc (.cells #[.string ⟨#[]⟩, .string ⟨#[]⟩, .string ⟨#[]⟩, .string ⟨#[]⟩, .bool false, .bool false, .bool false] 27)).alloc (.cells #[.string ⟨#[]⟩, .string ⟨#[]⟩, .string ⟨#[]⟩, .string ⟨#[]⟩, .bool false, .bool false, .bool false] 27)) := by
    refine ⟨str_eq rfl, ?_, (Blk.new w _ 27).alloc _, ((Below.refl _ _).alloc (Nat.le_refl _) _).alloc (by simp) _⟩
    have h := Blk.new (w.alloc (.cells #[.string ⟨#[]⟩, .string ⟨#[]⟩, .string ⟨#[]⟩, .string ⟨#[]⟩, .bool false, .bool false, .bool false] 27)) #[.string ⟨#[]⟩, .string ⟨#[]⟩, .string ⟨#[]⟩, .string ⟨#[]⟩, .bool false, .bool false, .bool false] 27
    have hz : (w.alloc (.cells #[.string ⟨#[]⟩, .string ⟨#[]⟩, .string ⟨#[]⟩, .string ⟨#[]⟩, .bool false, .bool false, .bool false] 27)).heap.size = w.heap.size + 1 := by simp
    rw [hz] at h; exact h
  generalize (w.alloc (.cells #[.string ⟨#[]⟩, .string ⟨#[]⟩, .string ⟨#[]⟩, .string ⟨#[]⟩, .bool false, .bool false, .bool false] 27)).alloc (.cells #[.string ⟨#[]⟩, .string ⟨#[]⟩, .string ⟨#[]⟩, .string ⟨#[]⟩, .bool false, .bool false, .bool false] 27) = w1 at *
  generalize hB : w.heap.size = B at *
  have HBB : Hid (w.heap.size = B) := hB
  clear hB
  go_cut [4] (fun i wx => i = .int .i64 (u : Nat) ∧ w1 = wx)
  case first =>
    go_wp2_with fail
    go_loopg [4] s.size (fun g i wx => ∃ k : Nat, k + g = s.size ∧ i = .int .i64 k ∧ w1 = wx ∧ ∀ (j : Nat) (b : UInt8), j < k → s.data.toList[j]? = some b → ([58, 47, 63, 35] : Bs).contains b = false)
    case atStart => exact ⟨0, by omega, rfl, rfl, fun j b hj => absurd hj (by omega)⟩
    case round =>
      obtain ⟨k, hkg, rfl, rfl, hn⟩ := hrel
      have HN : Hid (∀ (j : Nat) (b : UInt8), j < k → s.data.toList[j]? = some b → ([58, 47, 63, 35] : Bs).contains b = false) := hn
      clear hn
      by_cases hlt : k < s.size
      · cases hc : ([58, 47, 63, 35] : Bs).contains s[k] with
        | true =>
          have HF : Hid (k = u) := HV.out k (by omega) HN.out (.inr ⟨_, lget s k hlt, hc⟩)
          rcases (among4 s[k]).1 hc with h1 | h1 | h1 | h1
          · have n1 := bn_yes h1 58 rfl
            clear h1 hc
            go_wp2
            go_meet
            exact ⟨by rw [HF.out], rfl⟩
          · have n1 := bn_no (c := s[k]) (d := 58) (by rw [h1]; decide) 58 rfl
            have n2 := bn_yes h1 47 rfl
            clear h1 hc
            go_wp2
            go_meet
            exact ⟨by rw [HF.out], rfl⟩
          · have n1 := bn_no (c := s[k]) (d := 58) (by rw [h1]; decide) 58 rfl
            have n2 := bn_no (c := s[k]) (d := 47) (by rw [h1]; decide) 47 rfl
            have n3 := bn_yes h1 63 rfl
            clear h1 hc
            go_wp2
            go_meet
            exact ⟨by rw [HF.out], rfl⟩
          · have n1 := bn_no (c := s[k]) (d := 58) (by rw [h1]; decide) 58 rfl
            have n2 := bn_no (c := s[k]) (d := 47) (by rw [h1]; decide) 47 rfl
            have n3 := bn_no (c := s[k]) (d := 63) (by rw [h1]; decide) 63 rfl
            have n4 := bn_yes h1 35 rfl
            clear h1 hc
            go_wp2
            go_meet
            exact ⟨by rw [HF.out], rfl⟩
        | false =>
          have h0 : ¬ (s[k] = 58 ∨ s[k] = 47 ∨ s[k] = 63 ∨ s[k] = 35) := fun h => by rw [(among4 s[k]).2 h] at hc; simp at hc
          have n1 := bn_no (c := s[k]) (d := 58) (fun h => h0 (.inl h)) 58 rfl
          have n2 := bn_no (c := s[k]) (d := 47) (fun h => h0 (.inr (.inl h))) 47 rfl
          have n3 := bn_no (c := s[k]) (d := 63) (fun h => h0 (.inr (.inr (.inl h)))) 63 rfl
          have n4 := bn_no (c := s[k]) (d := 35) (fun h => h0 (.inr (.inr (.inr h)))) 35 rfl
          have HC : Hid (([58, 47, 63, 35] : Bs).contains s[k] = false) := hc
          clear hc h0
          go_wp2
          go_roundg (gk - 1)
          case measure => omega
          case rel =>
            refine ⟨k + 1, by omega, by go_num, rfl, ?_⟩
            intro j b hj hbb
            by_cases hjk : j < k
            · exact HN.out j b hjk hbb
            · obtain rfl : j = k := by omega
              rw [lget s j hlt] at hbb
              cases hbb
              exact HC.out
      · have HF : Hid (k = u) := HV.out k (by omega) HN.out (.inl (by omega))
        go_wp2
        go_meet
        exact ⟨by rw [HF.out], rfl⟩
  case rest =>
    obtain ⟨rfl, rfl⟩ := hcut
    clear HV
    go_upto_region 5 with fail
    go_cut [52] (fun b wx => b = .bool (cutScheme s.data.toList).2.2 ∧ w1 = wx)
    case first =>
      have hb := cs_bool HU.out
      by_cases h0 : 0 < u
      · by_cases hlt : u < s.size
        · have e58 : Hid (((s[u].toNat : Int) == 58) = (cutScheme s.data.toList).2.2) := by
            show _ = _
            rw [hb, lget s u hlt]
            rw [Bool.eq_iff_iff]; simp only [beq_iff_eq, decide_eq_true_eq, Option.some.injEq]
            constructor
            · intro e; exact ⟨h0, UInt8.toNat_inj.1 (by show s[u].toNat = 58; omega)⟩
            · rintro ⟨_, e⟩; rw [e]; rfl
          clear hb
          go_wp2
          go_meet
          exact ⟨by rw [e58.out], rfl⟩
        · have hbf : Hid ((cutScheme s.data.toList).2.2 = false) := by
            show _ = _
            rw [hb, List.getElem?_eq_none (by rw [blen]; omega)]; simp
          clear hb
          go_wp2
          go_meet
          exact ⟨by rw [hbf.out], rfl⟩
      · have hbf : Hid ((cutScheme s.data.toList).2.2 = false) := by show _ = _; rw [hb]; simp [h0]
        clear hb
        go_wp2
        go_meet
        exact ⟨by rw [hbf.out], rfl⟩
    case rest =>
      obtain ⟨rfl, rfl⟩ := hcut
      go_upto_if 52 with fail
      go_cut [0] (fun s0 wx => ZpI w B (cutScheme s.data.toList).2.1 (cutScheme s.data.toList).1 [] [] (cutScheme s.data.toList).2.2 false false s0 wx)
      case first =>
        cases hb : (cutScheme s.data.toList).2.2 with
        | false =>
          have h1 := cs_false hb
          have hS2 : ZpI w B (cutScheme s.data.toList).2.1 (cutScheme s.data.toList).1 [] [] false false false (.string s) w1 := by rw [h1]; exact hS1
          clear h1
          go_wp2
          go_meet
          rw [hb]
          exact hS2
        | true =>
          obtain ⟨h0, hlt, h58, hcs⟩ := cs_true HU.out hb
          have hls : u < s.size := by rw [← blen]; exact hlt
          obtain ⟨k0, k1, k2, k3⟩ := hS1
          have c0 := k1.cell 0
          have c5 := k1.cell 4
          have f0 := k1.thaw
          simp [zrCells] at c0 c5
          have HCS : Hid (cutScheme s.data.toList = (s.data.toList.take u, s.data.toList.drop (u + 1), true)) := hcs
          clear hcs h58 hlt hb
          go_wp2
          go_meet
          case rel =>
            rw [HCS.out, S_eq (ext_take s u)]
            exact ⟨str_eq (ext_list s (u + 1)), (k1.set 0 _).set 4 _, (k2.setOther _ (by simp) _).setOther _ (by simp) _, (k3.setCell (by simp) _).setCell (by simp) _⟩
      case rest =>
        clear hS1
        have hl1 : (cutScheme s.data.toList).2.1.length ≤ 10000000 := by have := cutScheme_len s.data.toList; rw [blen] at this; omega
        clear HU
        generalize hC1 : cutScheme s.data.toList = C1 at *
        have HC1 : Hid (cutScheme s.data.toList = C1) := hC1
        clear hC1
        obtain ⟨sc, l1, bs⟩ := C1
        simp only at hl1 hcut
        obtain ⟨rfl, k1, k2, k3⟩ := hcut
        have hsz : (S l1).size ≤ 10000000 := by rw [S_size]; exact hl1
        go_upto_region 9 with fail
        go_cut [74] (fun b wx => b = .bool (cutAuth l1).2.2 ∧ wc = wx)
        case first =>
          have hb := ca_bool l1
          have hzz : (S l1).size = l1.length := S_size l1
          by_cases h2 : 2 ≤ (S l1).size
          · have hp := pfx2_long (S l1) (by omega) (by omega)
            rw [S_data] at hp
            by_cases h47 : (S l1)[0] = 47
            · have n1 := beq47_yes h47
              have HF : Hid ((((S l1)[1].toNat : Int) == 47) = (cutAuth l1).2.2) := by
                show _ = _
                rw [hb, hp, h47]
                rw [Bool.eq_iff_iff]; simp only [beq_iff_eq, Bool.and_eq_true]
                constructor
                · intro e; exact ⟨by simp, UInt8.toNat_inj.1 (by show (S l1)[1].toNat = 47; omega)⟩
                · rintro ⟨_, e⟩; rw [e]; rfl
              have hge : (2 : Int) ≤ ((S l1).size : Int) := by omega
              clear hb hp h47 hzz
              go_wp2
              go_meet
              exact ⟨by rw [HF.out], rfl⟩
            · have n1 := beq47_no h47
              have HF : Hid ((cutAuth l1).2.2 = false) := by
                show _ = _
                rw [hb, hp]; simp [h47]
              have hge : (2 : Int) ≤ ((S l1).size : Int) := by omega
              clear hb hp h47 hzz
              go_wp2
              go_meet
              exact ⟨by rw [HF.out], rfl⟩
          · have HF : Hid ((cutAuth l1).2.2 = false) := by show _ = _; rw [hb, pfx2_short l1 (by omega)]
            clear hb hzz
            go_wp2
            go_meet
            exact ⟨by rw [HF.out], rfl⟩
        case rest =>
          obtain ⟨rfl, rfl⟩ := hcut
          go_upto_if 74 with fail
          go_cut [0, 5, 6] (fun s0 _ _ wx => ZpI w B (cutAuth l1).2.1 sc (cutAuth l1).1 [] bs (cutAuth l1).2.2 false s0 wx)
          case first =>
            cases hb : (cutAuth l1).2.2 with
            | false =>
              have h1 : cutAuth l1 = ([], l1, false) := by
                unfold cutAuth at hb ⊢
                by_cases hc : List.isPrefixOf [47, 47] l1 = true
                · rw [if_pos hc] at hb; simp at hb
                · rw [if_neg hc]
              go_wp2
              go_meet
              rw [h1]
              exact ⟨rfl, k1, k2, k3⟩
            | true =>
              have h1 : cutAuth l1 = ((l1.drop 2).take (upTo [47, 63, 35] (l1.drop 2)), (l1.drop 2).drop (upTo [47, 63, 35] (l1.drop 2)), true) := by
                unfold cutAuth at hb ⊢
                by_cases hc : List.isPrefixOf [47, 47] l1 = true
                · rw [if_pos hc]
                · rw [if_neg hc] at hb; simp at hb
              have h2 : 2 ≤ (S l1).size := by
                rw [S_size]
                by_cases h : l1.length < 2
                · rw [ca_bool, pfx2_short l1 h] at hb; simp at hb
                · omega
              have hrl : ((S l1).extract 2 (S l1).size).data.toList = l1.drop 2 := ext_list (S l1) 2
              have hrz : ((S l1).extract 2 (S l1).size).size ≤ 10000000 := Nat.le_trans (ext_le _ _ _) hsz
              have H1 : Hid (cutAuth l1 = ((l1.drop 2).take (upTo [47, 63, 35] (l1.drop 2)), (l1.drop 2).drop (upTo [47, 63, 35] (l1.drop 2)), true)) := h1
              clear h1
              go_upto_block 2 with fail
              clear hb h2
              generalize (S l1).extract 2 (S l1).size = r at *
              generalize l1.drop 2 = R at *
              subst hrl
              generalize hv : upTo [47, 63, 35] r.data.toList = v at *
              have hvl : v ≤ r.size := by rw [← hv, ← blen]; exact upTo_le _ _
              have HV : Hid (∀ k : Nat, k ≤ r.size → (∀ (j : Nat) (b : UInt8), j < k → r.data.toList[j]? = some b → ([47, 63, 35] : Bs).contains b = false) → (k = r.size ∨ ∃ b, r.data.toList[k]? = some b ∧ ([47, 63, 35] : Bs).contains b = true) → k = v) := by
                intro k hk hb he
                rw [← hv]
                refine (upTo_eq _ _ k (by rw [blen]; exact hk) hb ?_).symm
                rcases he with he | he
                · exact .inl (by rw [blen]; exact he)
                · exact .inr he
              clear hv
              go_cut [6] (fun i wx => i = .int .i64 (v : Nat) ∧ wc = wx)
              case first =>
                go_wp2_with fail
                go_loopg [6] r.size (fun g i wx => ∃ k : Nat, k + g = r.size ∧ i = .int .i64 k ∧ wc = wx ∧ ∀ (j : Nat) (b : UInt8), j < k → r.data.toList[j]? = some b → ([47, 63, 35] : Bs).contains b = false)
                case atStart => exact ⟨0, by omega, rfl, rfl, fun j b hj => absurd hj (by omega)⟩
                case round =>
                  obtain ⟨k, hkg, rfl, rfl, hn⟩ := hrel
                  have HN : Hid (∀ (j : Nat) (b : UInt8), j < k → r.data.toList[j]? = some b → ([47, 63, 35] : Bs).contains b = false) := hn
                  clear hn
                  by_cases hlt : k < r.size
                  · cases hc : ([47, 63, 35] : Bs).contains r[k] with
                    | true =>
                      have HF : Hid (k = v) := HV.out k (by omega) HN.out (.inr ⟨_, lget r k hlt, hc⟩)
                      rcases (among3 r[k]).1 hc with h1 | h1 | h1
                      · have n1 := bn_yes h1 47 rfl
                        clear h1 hc
                        go_wp2
                        go_meet
                        exact ⟨by rw [HF.out], rfl⟩
                      · have n1 := bn_no (c := r[k]) (d := 47) (by rw [h1]; decide) 47 rfl
                        have n2 := bn_yes h1 63 rfl
                        clear h1 hc
                        go_wp2
                        go_meet
                        exact ⟨by rw [HF.out], rfl⟩
                      · have n1 := bn_no (c := r[k]) (d := 47) (by rw [h1]; decide) 47 rfl
                        have n2 := bn_no (c := r[k]) (d := 63) (by rw [h1]; decide) 63 rfl
                        have n3 := bn_yes h1 35 rfl
                        clear h1 hc
                        go_wp2
                        go_meet
                        exact ⟨by rw [HF.out], rfl⟩
                    | false =>
                      have h0 : ¬ (r[k] = 47 ∨ r[k] = 63 ∨ r[k] = 35) := fun h => by rw [(among3 r[k]).2 h] at hc; simp at hc
                      have n1 := bn_no (c := r[k]) (d := 47) (fun h => h0 (.inl h)) 47 rfl
                      have n2 := bn_no (c := r[k]) (d := 63) (fun h => h0 (.inr (.inl h))) 63 rfl
                      have n3 := bn_no (c := r[k]) (d := 35) (fun h => h0 (.inr (.inr h))) 35 rfl
                      have HC : Hid (([47, 63, 35] : Bs).contains r[k] = false) := hc
                      clear hc h0
                      go_wp2
                      go_roundg (gk - 1)
                      case measure => omega
                      case rel =>
                        refine ⟨k + 1, by omega, by go_num, rfl, ?_⟩
                        intro j b hj hbb
                        by_cases hjk : j < k
                        · exact HN.out j b hjk hbb
                        · obtain rfl : j = k := by omega
                          rw [lget r j hlt] at hbb
                          cases hbb
                          exact HC.out
                  · have HF : Hid (k = v) := HV.out k (by omega) HN.out (.inl (by omega))
                    go_wp2
                    go_meet
                    exact ⟨by rw [HF.out], rfl⟩
              case rest =>
                obtain ⟨rfl, rfl⟩ := hcut
                clear HV
                have c1 := k1.cell 1
                have c5 := k1.cell 5
                have f0 := k1.thaw
                simp [zrCells] at c1 c5
                go_wp2
                go_meet
                case rel =>
                  rw [H1.out, S_eq (ext_take r v)]
                  exact ⟨str_eq (ext_list r v), (k1.set 1 _).set 5 _, (k2.setOther _ (by simp) _).setOther _ (by simp) _, (k3.setCell (by simp) _).setCell (by simp) _⟩
          case rest =>
            have hl2 : (cutAuth l1).2.1.length ≤ 10000000 := by have := cutAuth_len l1; omega
            generalize hC2 : cutAuth l1 = C2 at *
            have HC2 : Hid (cutAuth l1 = C2) := hC2
            clear hC2 k1 k2 k3
            obtain ⟨au, l2, ba⟩ := C2
            simp only at hl2 hcut
            obtain ⟨rfl, k1, k2, k3⟩ := hcut
            have hix := fun w => zzIndexByte_any (S l2) 35 (by rw [S_size]; omega) w
            rw [S_data] at hix
            have hul := upTo_le [35] l2
            have hz2 : (S l2).size ≤ 10000000 := by rw [S_size]; exact hl2
            have hsl : (S l2).size = l2.length := S_size l2
            obtain ⟨iv, HI⟩ : ∃ iv : Int, Hid (iv = if upTo [35] l2 < l2.length then (upTo [35] l2 : Int) else -1) := ⟨_, rfl⟩
            rw [← HI.out] at hix
            clear hsz hl1
            go_upto_if 112 with (first | (go_at_call 32; refine (hix _).mono ?_; rintro e w2 ⟨rfl, hw2⟩; have hw2 := hw2.symm; subst hw2))
            clear hix
            go_cut [0, 7] (fun s0 _ wx => ZpI w B (cutAt 35 l2).1 sc au [] bs ba false s0 wx)
            case first =>
              by_cases hlt : upTo [35] l2 < l2.length
              · have H1 : Hid ((cutAt 35 l2).1 = l2.take (upTo [35] l2)) := by show _ = _; unfold cutAt; rw [if_pos hlt]
                have h2 := HI.out
                rw [if_pos hlt] at h2
                generalize upTo [35] l2 = k at *
                subst h2
                have hk : k ≤ (S l2).size := by omega
                have hk0 : (0 : Int) ≤ (k : Int) := by omega
                clear hlt hul hsl HI
                go_wp2
                go_meet
                rw [H1.out]
                exact ⟨str_eq (ext_take (S l2) k), k1, k2, k3⟩
              · have H1 : Hid ((cutAt 35 l2).1 = l2) := by show _ = _; unfold cutAt; rw [if_neg hlt]
                have h2 := HI.out
                rw [if_neg hlt] at h2
                subst h2
                clear hlt hul hsl HI
                go_wp2
                go_meet
                rw [H1.out]
                exact ⟨rfl, k1, k2, k3⟩
            case rest =>
              clear k1 k2 k3 HI hul hsl hz2
              have hl3 : (cutAt 35 l2).1.length ≤ 10000000 := by have := cutAt_len 35 l2; omega
              generalize hC3 : (cutAt 35 l2).1 = l3 at *
              have HC3 : Hid ((cutAt 35 l2).1 = l3) := hC3
              clear hC3 hl2
              obtain ⟨rfl, k1, k2, k3⟩ := hcut
              have hix := fun w => zzIndexByte_any (S l3) 63 (by rw [S_size]; omega) w
              rw [S_data] at hix
              have hul := upTo_le [63] l3
              have hz2 : (S l3).size ≤ 10000000 := by rw [S_size]; exact hl3
              have hsl : (S l3).size = l3.length := S_size l3
              obtain ⟨iv, HI⟩ : ∃ iv : Int, Hid (iv = if upTo [63] l3 < l3.length then (upTo [63] l3 : Int) else -1) := ⟨_, rfl⟩
              rw [← HI.out] at hix
              go_upto_if 119 with (first | (go_at_call 32; refine (hix _).mono ?_; rintro e w2 ⟨rfl, hw2⟩; have hw2 := hw2.symm; subst hw2))
              clear hix
              go_cut [0, 8] (fun s0 _ wx => ZpI w B (cutAt 63 l3).1 sc au (cutAt 63 l3).2.1 bs ba (cutAt 63 l3).2.2 s0 wx)
              case first =>
                by_cases hlt : upTo [63] l3 < l3.length
                · have H1 : Hid (cutAt 63 l3 = (l3.take (upTo [63] l3), l3.drop (upTo [63] l3 + 1), true)) := by show _ = _; unfold cutAt; rw [if_pos hlt]
                  have h2 := HI.out
                  rw [if_pos hlt] at h2
                  generalize upTo [63] l3 = k at *
                  subst h2
                  have hk : k < (S l3).size := by omega
                  have hk0 : (0 : Int) ≤ (k : Int) := by omega
                  clear hlt hul hsl HI
                  have c3 := k1.cell 3
                  have c6 := k1.cell 6
                  have f0 := k1.thaw
                  simp [zrCells] at c3 c6
                  go_wp2
                  go_meet
                  case rel =>
                    rw [H1.out, S_eq (ext_list (S l3) (k + 1))]
                    exact ⟨str_eq (ext_take (S l3) k), (k1.set 3 _).set 6 _, (k2.setOther _ (by simp) _).setOther _ (by simp) _, (k3.setCell (by simp) _).setCell (by simp) _⟩
                · have H1 : Hid (cutAt 63 l3 = (l3, [], false)) := by show _ = _; unfold cutAt; rw [if_neg hlt]
                  have h2 := HI.out
                  rw [if_neg hlt] at h2
                  subst h2
                  clear hlt hul hsl HI
                  go_wp2
                  go_meet
                  rw [H1.out]
                  exact ⟨rfl, k1, k2, k3⟩
              case rest =>
                clear k1 k2 k3 HI hul hsl hz2
                have HE : Hid ((parse s.data.toList).scheme = sc ∧ (parse s.data.toList).authority = au ∧ (parse s.data.toList).path = (cutAt 63 l3).1 ∧ (parse s.data.toList).query = (cutAt 63 l3).2.1 ∧ (parse s.data.toList).hs = bs ∧ (parse s.data.toList).ha = ba ∧ (parse s.data.toList).hq = (cutAt 63 l3).2.2) := by
                  simp only [parse, HC1.out, HC2.out, HC3.out]
                  exact ⟨trivial, trivial, trivial, trivial, trivial, trivial, trivial⟩
                generalize cutAt 63 l3 = C4 at *
                obtain ⟨l4, qu, bq⟩ := C4
                obtain ⟨rfl, k1, k2, k3⟩ := hcut
                have f0 := k1.thaw
                have c0 := k1.cell 0
                have c1 := k1.cell 1
                have c2 := k1.cell 2
                have c3 := k1.cell 3
                have c4 := k1.cell 4
                have c5 := k1.cell 5
                have c6 := k1.cell 6
                have f9 := k2.thaw
                have e0 := k2.cell 0
                have e1 := k2.cell 1
                have e2 := k2.cell 2
                have e3 := k2.cell 3
                have e4 := k2.cell 4
                have e5 := k2.cell 5
                have e6 := k2.cell 6
                simp [zrCells] at c0 c1 c2 c3 c4 c5 c6 e0 e1 e2 e3 e4 e5 e6
                go_wp2
                have q1 := k1.set 2 (.string (S l4))
                have q2 := k2.setOther ⟨B + 1, 2, none⟩ (by simp) (.string (S l4))
                have q3 := k3.setCell (p := ⟨B + 1, 2, none⟩) (by simp) (.string (S l4))
                have f1 := fin7z q2 (by rfl) (.string (S sc)) (.string (S au)) (.string (S l4)) (.string (S qu)) (.bool bs) (.bool ba) (.bool bq)
                have f2 := below7z q3 (.string (S sc)) (.string (S au)) (.string (S l4)) (.string (S qu)) (.bool bs) (.bool ba) (.bool bq)
                obtain ⟨a1, a2, a3, a4, a5, a6, a7⟩ := HE.out
                refine ret17 (B := B) (sc := sc) (au := au) (pa := l4) (qu := qu) (bs := bs) (ba := ba) (bq := bq) rfl rfl f1 ?_
                refine ⟨by rw [a1, a2, a3, a4, a5, a6, a7], by rw [HBB.out]; exact f2⟩
end Go.Proofs.Qxb6000768a
