import Derived.Test.Qxb6000880aK2
import Derived.Test.Qxb6000880aL
set_option linter.unusedSimpArgs false
set_option linter.unusedVariables false
namespace Go.Proofs.Qxb6000880a
open Go.RowKit

def acells (gT cT ko kl st en : Nat) (q : UInt8) (b : Bool) : Array Value := #[.slice (some ⟨gT, ko, none⟩) kl (cT - ko), .int .i64 (st : Int), .int .i64 (en : Int), .int .u8 (q.toNat : Int), .bool b]
def fcells (gT cT : Nat) (f : F) : List Value := (acells gT cT f.ko f.kl f.st f.en f.q f.bare).toList
theorem own_keep {w w' : World} {B : Nat} {e : TypeId} {s n : Nat} {v : Value} {xs : List Value} (h : w.ownsRow B e s v n xs) (hb : Below w.heap.size w w') : w'.ownsRow B e s v n xs :=
  World.ownsRow.kept h (grown_below hb (Nat.le_refl _) none) (by cases hv : v.ownBlock <;> simp)

theorem own_set {w : World} {B : Nat} {e : TypeId} {s n : Nat} {v : Value} {xs : List Value} (h : w.ownsRow B e s v n xs) (a : Addr) (x : Value) (hne : ∀ k, v.ownBlock = some k → k ≠ a.block) : (w.setCell a x).ownsRow B e s v n xs :=
  World.ownsRow.kept h (row := some a.block) ⟨rfl, rfl, rfl, by simp, fun k hk hk' => Below.heap_setCell _ _ _ _ (by intro e; apply hk'; rw [e])⟩ (by
    cases hv : v.ownBlock with
    | none => exact .inl rfl
    | some k => right; intro e; exact hne k hv (by simpa using e))

/-- what holds between two attributes -/
def SI (w : World) (gT cT : Nat) (ats : List A) (g : Nat) (i v : Value) (wx : World) : Prop :=
  ∃ dn rs m0, dn ++ rs = ats ∧ rs.length = g ∧ m0 ≤ 1 ∧ (m0 = 1 → rs ≠ []) ∧ i = .int .i64 ((2 + (rends dn).length + m0 : Nat) : Int) ∧ wx.ownsRow w.heap.size 58 5 v dn.length ((found 2 dn).flatMap (fcells gT cT)) ∧ Below w.heap.size w wx
theorem SI.next {w : World} {gT cT : Nat} {ats dn rs : List A} {a : A} {v' : Value} {w' : World} {news : List Value} (hdr : dn ++ a :: rs = ats)
    (ho : w'.ownsRow w.heap.size 58 5 v' (dn.length + 1) ((found 2 dn).flatMap (fcells gT cT) ++ news)) (hn : news = fcells gT cT (fnd (2 + (rends dn).length) a)) (hb : Below w.heap.size w w') (m0 : Nat) (hm : m0 ≤ 1) (hm1 : m0 = 1 → rs ≠ []) (p : Int)
    (hp : p = ((2 + (rends dn).length + (rend a).length + m0 : Nat) : Int)) : SI w gT cT ats rs.length (.int .i64 p) v' w' := by
  refine ⟨dn ++ [a], rs, m0, by rw [← hdr]; simp, rfl, hm, hm1, ?_, ?_, hb⟩
  · rw [hp, rends_app, rends_cons]; simp [rends]; omega
  · rw [found_app, List.flatMap_append, List.length_append]
    subst hn
    simpa [found] using ho

theorem badN_sp {c : UInt8} (h : badN c = false) : sp c = false ∧ c ≠ 47 ∧ c ≠ 62 ∧ c ≠ 61 := by
  unfold badN at h
  simp at h
  exact ⟨h.1.1.1, h.1.1.2, h.1.2, h.2⟩

theorem rends_len (xs : List A) : xs.length ≤ (rends xs).length := by
  induction xs with
  | nil => simp
  | cons a t ih => rw [rends_cons]; simp [rend]; omega

theorem rest_head (rs : List A) : ∃ c rest, rends rs ++ [62] = c :: rest ∧ badV c = true := by
  cases rs with
  | nil => exact ⟨62, [], rfl, rfl⟩
  | cons a t => exact ⟨32, _, by rw [rends_cons]; simp [rend]; rfl, rfl⟩
theorem badV_sp {c : UInt8} (h : badV c = false) : sp c = false := by
  unfold badV at h
  simp at h
  exact h.1

set_option maxRecDepth 1000000 in
set_option maxHeartbeats 8000000 in
theorem scanAttrs_any (gT cT : Nat) (ats : List A) (hok : ∀ a ∈ ats, OKA a) (T : Bs) (hTe : T = tagOf ats) (w : World) (hT : TX w gT T) (hcT : T.length ≤ cT) (hl : T.length ≤ 10000000) :
    Calls Try.prog 30 #[.slice (some ⟨gT, 0, none⟩) T.length cT, .int .i64 2, .slice none 0 0] w fun e w' => ∃ v, e = .returned v ∧ w'.ownsRow w.heap.size 58 5 v ats.length ((found 2 ats).flatMap (fcells gT cT)) ∧ Below w.heap.size w w' := by
  have hp0 : 0 < T.length := by rw [hTe]; simp [tagOf]
  have hgT : gT < w.heap.size := World.block_lt_of_cell? w _ (hT 0 hp0)
  have HTX : Hid (∀ W, Below w.heap.size w W → TX W gT T) := fun W hW i hi => by rw [hW.cell (p := ⟨gT, i, none⟩) hgT]; exact hT i hi
  have HSK : Hid (∀ W, Below w.heap.size w W → ∀ i m, i + m ≤ T.length → (∀ j, j < m → ∀ h : i + j < T.length, sp T[i + j] = true) → (∀ h : i + m < T.length, sp T[i + m] = false) →
      Calls Try.prog 35 #[.slice (some ⟨gT, 0, none⟩) T.length cT, .int .i64 (i : Int)] W fun e w' => e = .returned (.int .i64 ((i + m : Nat) : Int)) ∧ w' = W) := fun W hW i m h1 h2 h3 => skipSpace_any ⟨gT, 0, none⟩ cT T i m W (by omega) (fun j hj => by rw [add0]; exact HTX.out W hW j hj) h1 h2 h3
  have hs := fun c w => isSpace_any c w
  have HDR : Hid (∀ dn rs, dn ++ rs = ats → T.drop (2 + (rends dn).length) = rends rs ++ [62]) := fun dn rs h => by rw [hTe, ← h]; exact tag_drop dn rs
  have HLE : Hid (∀ dn rs, dn ++ rs = ats → 2 + (rends dn).length ≤ T.length) := fun dn rs h => by rw [hTe, ← h]; simp [tagOf, rends_app]; omega
  clear hTe hT
  go_enter Try.func30, Try.ntmps30
  go_wp2_with fail
  go_loopg [1, 2] ats.length (fun g i v wx => SI w gT cT ats g i v wx)
  case atStart => exact ⟨[], ats, 0, rfl, rfl, by omega, fun h => by omega, by simp [rends], World.ownsRow_nil w _ 58 5, Below.refl _ _⟩
  case round =>
    obtain ⟨dn, rs, m0, hdr, hrg, hm0, hm1, rfl, hown, hb⟩ := hrel
    have hdrop := HDR.out dn rs hdr
    have hle := HLE.out dn rs hdr
    obtain ⟨P, HP⟩ : ∃ P, Hid (2 + (rends dn).length = P) := ⟨_, rfl⟩
    rw [HP.out] at hdrop hle
    rw [HP.out]
    have hlen := drop_len hdrop hle
    cases rs with
    | nil =>
      obtain rfl : m0 = 0 := by
        rcases Nat.lt_or_ge m0 1 with h | h
        · omega
        · exact absurd rfl (hm1 (by omega))
      simp only [rends, List.flatMap_nil, List.nil_append] at hdrop hlen
      obtain ⟨hPl, hPg⟩ := drop_get hdrop 0 (by simp)
      simp only [Nat.add_zero, List.getElem_cons_zero] at hPl hPg
      have hsk := HSK.out wr hb P 0 (by omega) (fun j hj => by omega) (fun h => by simp only [Nat.add_zero]; rw [hPg]; rfl)
      have hcell := HTX.out wr hb P hPl
      rw [hPg] at hcell
      simp only [Nat.add_zero] at hsk ⊢
      have HE : Hid (dn = ats) := by show _ = _; rw [← hdr]; simp
      clear hdrop hlen hPg
      go_wp2_with (first | (go_at_call 35; refine hsk.mono ?_; rintro e w2 ⟨rfl, hw2⟩; have hw2 := hw2.symm; subst hw2))
      go_ret
      exact ⟨_, rfl, by rw [← HE.out]; exact hown, hb⟩
    | cons a rs' =>
      have hoka : OKA a := hok a (by rw [← hdr]; simp)
      obtain ⟨hnn, hnb, hvv⟩ := hoka
      have hnl : 0 < a.nm.length := List.length_pos_iff.2 hnn
      rw [rends_cons, rend] at hdrop
      have hdrop1 : T.drop (P + 1) = a.nm ++ (tailOf a ++ (rends rs' ++ [62])) := by rw [← List.drop_drop, hdrop]; simp
      have hl1 : P + 1 ≤ T.length := by have := drop_len hdrop hle; simp at this; omega
      have hlen1 := drop_len hdrop1 hl1
      obtain ⟨hS0, hSg⟩ := drop_get hdrop1 0 (by simp; omega)
      rw [List.getElem_append_left hnl] at hSg
      simp only [Nat.add_zero] at hS0 hSg
      have hbad0 := badN_sp (hnb a.nm[0] (List.getElem_mem hnl))
      have hsk : Calls Try.prog 35 #[.slice (some ⟨gT, 0, none⟩) T.length cT, .int .i64 ((P + m0 : Nat) : Int)] wr fun e w' => e = .returned (.int .i64 ((P + 1 : Nat) : Int)) ∧ w' = wr := by
        have h := HSK.out wr hb (P + m0) (1 - m0) (by omega) (fun j hj h => by
          obtain rfl : m0 = 0 := by omega
          obtain rfl : j = 0 := by omega
          obtain ⟨_, g⟩ := drop_get hdrop 0 (by simp)
          simp only [Nat.add_zero, List.cons_append, List.getElem_cons_zero] at g ⊢
          rw [g]; rfl) (fun h => by
          have e : P + m0 + (1 - m0) = P + 1 := by omega
          simp only [e, hSg]; exact hbad0.1)
        rwa [show P + m0 + (1 - m0) = P + 1 by omega] at h
      have hcell := HTX.out wr hb (P + 1) hS0
      rw [hSg] at hcell
      have t62 : ((a.nm[0].toNat : Int) == 62) = false := tst hbad0.2.2.1
      generalize a.nm[0] = c0 at *
      obtain ⟨P0, HP0⟩ : ∃ P0, Hid (P + m0 = P0) := ⟨_, rfl⟩
      rw [HP0.out] at hsk
      rw [HP0.out]
      obtain ⟨S, HS⟩ : ∃ S, Hid (P + 1 = S) := ⟨_, rfl⟩
      rw [HS.out] at hdrop1 hl1 hlen1 hS0 hsk hcell
      have HNM : Hid (∀ k (h : k < a.nm.length), S + k < T.length ∧ ∃ c, wr.cell? ⟨gT, S + k, none⟩ = some (.int .u8 ((c : UInt8).toNat : Int)) ∧ badN c = false) := by
        intro k h
        obtain ⟨h', g⟩ := drop_get hdrop1 k (by simp; omega)
        rw [List.getElem_append_left h] at g
        exact ⟨h', a.nm[k], by rw [HTX.out wr hb _ h', g], hnb _ (List.getElem_mem h)⟩
      have hdrop2 : T.drop (S + a.nm.length) = tailOf a ++ (rends rs' ++ [62]) := by rw [← List.drop_drop, hdrop1, List.drop_left]
      obtain ⟨S2, HS2⟩ : ∃ S2, Hid (S + a.nm.length = S2) := ⟨_, rfl⟩
      rw [HS2.out] at hdrop2
      have hS2 : S < S2 := by have := HS2.out; omega
      have hS2l : S2 < T.length := by
        have := HS2.out
        simp only [List.length_append, List.length_cons, List.length_nil] at hlen1
        omega
      have hS2s : S2 - S = a.nm.length := by have := HS2.out; omega
      have hdnl : dn.length + 1 ≤ 100000000 := by have h1 := rends_len dn; have h2 := HP.out; omega
      clear hdrop hdrop1 hlen1 hlen hSg hbad0 hnb hnn
      generalize wr = wo at *
      have hS2i : (S : Int) < (S2 : Int) := by omega
      have hb1 : (S : Int) ≤ (S2 : Int) := by omega
      have hb2 : (S2 : Int) ≤ (cT : Int) := by omega
      have hcn : ¬ (cT = S) := by omega
      have hTS : ¬ (T.length ≤ S) := by omega
      go_wp2_with (first | (go_at_call 35; refine hsk.mono ?_; rintro e w2 ⟨rfl, hw2⟩; have hw2 := hw2.symm; subst hw2))
      go_loopg [1] a.nm.length (fun g i wx => ∃ k : Nat, k + g = a.nm.length ∧ i = .int .i64 ((S + k : Nat) : Int) ∧ wo = wx)
      case atStart => exact ⟨0, by omega, rfl, rfl⟩
      case round =>
        obtain ⟨k, hkg, rfl, rfl⟩ := hrel
        by_cases hlt : k < a.nm.length
        · obtain ⟨hkT, c, hck, hbk⟩ := HNM.out k hlt
          obtain ⟨b1, b2, b3, b4⟩ := badN_sp hbk
          have hst := hs c
          rw [b1] at hst
          have n47 : ((c.toNat : Int) == 47) = false := tst b2
          have n62 : ((c.toNat : Int) == 62) = false := tst b3
          have n61 : ((c.toNat : Int) == 61) = false := tst b4
          clear b1 b2 b3 b4 hbk hs hsk hcell hb1 hb2
          go_wp2_with (first | (go_at_call 36; refine (hst _).mono ?_; rintro e w2 ⟨rfl, hw2⟩; have hw2 := hw2.symm; subst hw2))
          go_roundg (gk - 1)
          case measure => omega
          case rel => exact ⟨k + 1, by omega, by go_num, rfl⟩
        · obtain rfl : k = a.nm.length := by omega
          rw [HS2.out]
          clear hsk hcell
          cases hba : a.bare with
          | false =>
            have hd2 : T.drop S2 = 61 :: (qq a.q ++ (a.val ++ (qq a.q ++ (rends rs' ++ [62])))) := by rw [hdrop2]; simp [tailOf, hba]
            obtain ⟨_, g2⟩ := drop_get hd2 0 (by simp)
            simp only [Nat.add_zero, List.getElem_cons_zero] at g2
            have hd3 : T.drop (S2 + 1) = qq a.q ++ (a.val ++ (qq a.q ++ (rends rs' ++ [62]))) := by rw [← List.drop_drop, hd2]; rfl
            have hst : ∀ W, Calls Try.prog 36 #[.int .u8 61] W fun e w' => e = .returned (.bool false) ∧ w' = W := fun W => hs 61 W
            have hc2 : wo.cell? ⟨gT, S2, none⟩ = some (.int .u8 61) := by rw [HTX.out wo hb S2 hS2l, g2]; rfl
            go_upto_region 10 with (first | (go_at_call 36; refine (hst _).mono ?_; rintro e w2 ⟨rfl, hw2⟩; have hw2 := hw2.symm; subst hw2))
            have hGw : w.heap.size ≤ wo.heap.size := hb.size
            have hvb : ∀ k, u2.ownBlock = some k → k < wo.heap.size := fun k hk => (World.ownsRow.lt hown k hk).2
            have hnewB : Blk (wo.alloc (.cells #[.slice (some ⟨gT, S, none⟩) a.nm.length (cT - S), .int .i64 S2, .int .i64 S2, .int .u8 0, .bool true] 58)) wo.heap.size #[.slice (some ⟨gT, S, none⟩) a.nm.length (cT - S), .int .i64 S2, .int .i64 S2, .int .u8 0, .bool true] 58 := Blk.new wo _ 58
            have hbel : Below wo.heap.size wo (wo.alloc (.cells #[.slice (some ⟨gT, S, none⟩) a.nm.length (cT - S), .int .i64 S2, .int .i64 S2, .int .u8 0, .bool true] 58)) := (Below.refl _ _).alloc (Nat.le_refl _) _
            have hbw := hb.trans (hbel.mono hb.size)
            have hownA := own_keep hown hbel
            clear hc2 hbel
            generalize wo.alloc (.cells #[.slice (some ⟨gT, S, none⟩) a.nm.length (cT - S), .int .i64 S2, .int .i64 S2, .int .u8 0, .bool true] 58) = wa at *
            generalize wo.heap.size = G9 at *
            have hsk2 := HSK.out wa hbw S2 0 (by omega) (fun j hj => by omega) (fun h => by simp only [Nat.add_zero]; rw [g2]; rfl)
            simp only [Nat.add_zero] at hsk2
            have hc3 : wa.cell? ⟨gT, S2, none⟩ = some (.int .u8 61) := by rw [HTX.out wa hbw S2 hS2l, g2]; rfl
            obtain ⟨S3, HS3⟩ : ∃ S3, Hid (S2 + 1 = S3) := ⟨_, rfl⟩
            rw [HS3.out] at hd3
            have hS3l : S3 ≤ T.length := by have := HS3.out; omega
            have hfirst : ∀ h : S3 < T.length, sp T[S3] = false := by
              intro h
              rcases hvv hba with ⟨hq, _⟩ | ⟨hq, hv1, _, _, hv4⟩
              · have hqn : qq a.q = [a.q] := by rcases hq with h | h <;> rw [h] <;> rfl
                rw [hqn] at hd3
                obtain ⟨_, g⟩ := drop_get hd3 0 (by simp)
                simp only [Nat.add_zero, List.cons_append, List.getElem_cons_zero] at g
                rw [g]
                rcases hq with h | h <;> rw [h] <;> rfl
              · have hqn : qq a.q = [] := by rw [hq]; rfl
                have hvl := List.length_pos_iff.2 hv1
                rw [hqn, List.nil_append] at hd3
                obtain ⟨_, g⟩ := drop_get hd3 0 (by simp; omega)
                rw [List.getElem_append_left hvl] at g
                simp only [Nat.add_zero] at g
                rw [g]
                exact badV_sp (hv4 _ (List.getElem_mem hvl))
            have hsk3 : Calls Try.prog 35 #[.slice (some ⟨gT, 0, none⟩) T.length cT, .int .i64 ((S2 : Int) + 1)] wa fun e w' => e = .returned (.int .i64 (S3 : Int)) ∧ w' = wa := by
              have e3 : (S3 : Int) = (S2 : Int) + 1 := by have := HS3.out; omega
              rw [← e3]
              simpa using HSK.out wa hbw S3 0 (by omega) (fun j hj => by omega) (fun h => by simpa using hfirst (by omega))
            obtain ⟨st, en, nx, HST, hsv⟩ : ∃ st en nx, Hid (st = S3 + (qq a.q).length ∧ en = st + a.val.length ∧ nx = en + (qq a.q).length) ∧ Calls Try.prog 37 #[.slice (some ⟨gT, 0, none⟩) T.length cT, .int .i64 (S3 : Int)] wa fun e w' => e = .returned (.tuple #[.int .i64 ((st : Nat) : Int), .int .i64 ((en : Nat) : Int), .int .u8 (a.q.toNat : Int), .int .i64 ((nx : Nat) : Int)]) ∧ w' = wa := by
              rcases hvv hba with ⟨hq, hv⟩ | ⟨hq, hv1, hv2, hv3, hv4⟩
              · have hqn : qq a.q = [a.q] := by rcases hq with h | h <;> rw [h] <;> rfl
                rw [hqn] at hd3
                refine ⟨S3 + 1, S3 + 1 + a.val.length, S3 + 2 + a.val.length, ⟨by rw [hqn]; rfl, rfl, by rw [hqn]; simp; omega⟩, ?_⟩
                exact scanValue_q gT cT T S3 a.q a.val _ wa (HTX.out wa hbw) (by omega) hcT hS3l hq hd3 hv
              · have hqn : qq a.q = [] := by rw [hq]; rfl
                rw [hqn, List.nil_append, List.nil_append] at hd3
                obtain ⟨c, rest, hcr, hbc⟩ := rest_head rs'
                rw [hcr] at hd3
                refine ⟨S3, S3 + a.val.length, S3 + a.val.length, ⟨by rw [hqn]; rfl, rfl, by rw [hqn]; rfl⟩, ?_⟩
                have := scanValue_u gT cT T S3 a.val rest c wa (HTX.out wa hbw) (by omega) hcT hS3l hd3 hv1 hv2 hv3 hv4 hbc
                rw [hq]
                exact this
            have d0 := hnewB.cell 0
            have d1 := hnewB.cell 1
            have d2 := hnewB.cell 2
            have d3 := hnewB.cell 3
            have d4 := hnewB.cell 4
            have df := hnewB.thaw
            simp at d0 d1 d2 d3 d4
            have HRW : Hid (rend a = 32 :: (a.nm ++ (61 :: (qq a.q ++ (a.val ++ qq a.q))))) := by show _ = _; simp [rend, tailOf, hba]
            clear HSK HDR HLE HNM hdrop2 hd2 hd3 g2 hown hs
            go_upto_region 15 with (first | (go_at_call 35; refine hsk2.mono ?_; rintro e w2 ⟨rfl, hw2⟩; have hw2 := hw2.symm; subst hw2))
            clear hsk2
            go_upto_region 16 with (first | (go_at_call 35; refine hsk3.mono ?_; rintro e w2 ⟨rfl, hw2⟩; have hw2 := hw2.symm; subst hw2))
            clear hsk3
            go_upto_region 18 with (first | (go_at_call 37; refine hsv.mono ?_; rintro e w2 ⟨rfl, hw2⟩; have hw2 := hw2.symm; subst hw2))
            have hBz : Blk ((((wa.setCell ⟨G9, 1, none⟩ (.int .i64 st)).setCell ⟨G9, 2, none⟩ (.int .i64 en)).setCell ⟨G9, 3, none⟩ (.int .u8 (a.q.toNat : Int))).setCell ⟨G9, 4, none⟩ (.bool false)) G9 #[.slice (some ⟨gT, S, none⟩) a.nm.length (cT - S), .int .i64 st, .int .i64 en, .int .u8 (a.q.toNat : Int), .bool false] 58 := (((hnewB.set 1 _).set 2 _).set 3 _).set 4 _
            have hne : ∀ k, u2.ownBlock = some k → k ≠ G9 := fun k hk e => by have := hvb k hk; omega
            have hownZ := own_set (own_set (own_set (own_set hownA ⟨G9, 1, none⟩ (.int .i64 st) hne) ⟨G9, 2, none⟩ (.int .i64 en) hne) ⟨G9, 3, none⟩ (.int .u8 (a.q.toNat : Int)) hne) ⟨G9, 4, none⟩ (.bool false) hne
            have hbz : Below w.heap.size w ((((wa.setCell ⟨G9, 1, none⟩ (.int .i64 st)).setCell ⟨G9, 2, none⟩ (.int .i64 en)).setCell ⟨G9, 3, none⟩ (.int .u8 (a.q.toNat : Int))).setCell ⟨G9, 4, none⟩ (.bool false)) := (((hbw.setCell (p := ⟨G9, 1, none⟩) hGw _).setCell (p := ⟨G9, 2, none⟩) hGw _).setCell (p := ⟨G9, 3, none⟩) hGw _).setCell (p := ⟨G9, 4, none⟩) hGw _
            clear d0 d1 d2 d3 d4 df hsv hownA hnewB
            generalize ((((wa.setCell ⟨G9, 1, none⟩ (.int .i64 st)).setCell ⟨G9, 2, none⟩ (.int .i64 en)).setCell ⟨G9, 3, none⟩ (.int .u8 (a.q.toNat : Int))).setCell ⟨G9, 4, none⟩ (.bool false)) = wz at *
            have d0 := hBz.cell 0
            have d1 := hBz.cell 1
            have d2 := hBz.cell 2
            have d3 := hBz.cell 3
            have d4 := hBz.cell 4
            simp at d0 d1 d2 d3 d4
            have hwsz := hbz.size
            have hown2 := World.ownsRow.alloc hownZ (.cells #[.slice (some ⟨gT, S, none⟩) a.nm.length (cT - S), .int .i64 st, .int .i64 en, .int .u8 (a.q.toNat : Int), .bool false] 58)
            have hnc : ∀ j u, (acells gT cT S a.nm.length st en a.q false).toList[j]? = some u → (wz.alloc (.cells #[.slice (some ⟨gT, S, none⟩) a.nm.length (cT - S), .int .i64 st, .int .i64 en, .int .u8 (a.q.toNat : Int), .bool false] 58)).cell? ⟨wz.heap.size, j, none⟩ = some u := fun j u h => by rw [(Blk.new wz _ 58).cell]; simpa [acells] using h
            have hn1 : ∀ u ∈ (acells gT cT S a.nm.length st en a.q false).toList, u.oneCell' = true := by intro u hu; simp [acells] at hu; rcases hu with rfl | rfl | rfl | rfl | rfl <;> rfl
            have hbB : w.heap.size ≤ (wz.alloc (.cells #[.slice (some ⟨gT, S, none⟩) a.nm.length (cT - S), .int .i64 st, .int .i64 en, .int .u8 (a.q.toNat : Int), .bool false] 58)).heap.size := by simp; omega
            have HFIN : Hid (∀ v' w', w'.ownsRow w.heap.size 58 5 v' (dn.length + 1) ((found 2 dn).flatMap (fcells gT cT) ++ (acells gT cT S a.nm.length st en a.q false).toList) → Below w.heap.size (wz.alloc (.cells #[.slice (some ⟨gT, S, none⟩) a.nm.length (cT - S), .int .i64 st, .int .i64 en, .int .u8 (a.q.toNat : Int), .bool false] 58)) w' → SI w gT cT ats rs'.length (.int .i64 nx) v' w') := by
              intro v' w' ho' hb'
              have h1 := HP.out
              have h2 := HS.out
              have h3 := HS2.out
              have h4 := HS3.out
              obtain ⟨h5, h6, h7⟩ := HST.out
              refine SI.next hdr ho' ?_ ((hbz.alloc (by omega) _).trans hb') 0 (by omega) (fun h => by omega) _ ?_
              · simp only [fcells, fnd, hba, Bool.false_eq_true, if_false]
                rw [h1, h2, h3, h4, ← h5, ← h6]
              · rw [HRW.out, h1]
                simp only [List.length_cons, List.length_append]
                omega
            clear HTX hownZ hBz HST HRW hba hvv
            go_wp2_with (first | (at_builtin; refine wpList_attr rfl (.tmp 109) (.tmp 111) rfl w.heap.size _ dn.length _ rfl hown2 wz.heap.size 1 (acells gT cT S a.nm.length st en a.q false).toList rfl rfl hnc hn1 hdnl hbB ?_; intro v' w' ho' hb'))
            go_roundg rs'.length
            case measure => simp at hrg; omega
            case rel => exact HFIN.out _ _ ho' hb'
          | true =>
            cases rs' with
            | nil =>
              have hd2 : T.drop S2 = [62] := by rw [hdrop2]; simp [tailOf, hba, rends]
              obtain ⟨_, g2⟩ := drop_get hd2 0 (by simp)
              simp only [Nat.add_zero, List.getElem_cons_zero] at g2
              have hst : ∀ W, Calls Try.prog 36 #[.int .u8 62] W fun e w' => e = .returned (.bool false) ∧ w' = W := fun W => hs 62 W
              have hc2 : wo.cell? ⟨gT, S2, none⟩ = some (.int .u8 62) := by rw [HTX.out wo hb S2 hS2l, g2]; rfl
              go_upto_region 10 with (first | (go_at_call 36; refine (hst _).mono ?_; rintro e w2 ⟨rfl, hw2⟩; have hw2 := hw2.symm; subst hw2))
              have hnewB : Blk (wo.alloc (.cells #[.slice (some ⟨gT, S, none⟩) a.nm.length (cT - S), .int .i64 S2, .int .i64 S2, .int .u8 0, .bool true] 58)) wo.heap.size #[.slice (some ⟨gT, S, none⟩) a.nm.length (cT - S), .int .i64 S2, .int .i64 S2, .int .u8 0, .bool true] 58 := Blk.new wo _ 58
              have hbel : Below wo.heap.size wo (wo.alloc (.cells #[.slice (some ⟨gT, S, none⟩) a.nm.length (cT - S), .int .i64 S2, .int .i64 S2, .int .u8 0, .bool true] 58)) := (Below.refl _ _).alloc (Nat.le_refl _) _
              have hbw := hb.trans (hbel.mono hb.size)
              have hownA := own_keep hown hbel
              clear hc2 hbel
              generalize wo.alloc (.cells #[.slice (some ⟨gT, S, none⟩) a.nm.length (cT - S), .int .i64 S2, .int .i64 S2, .int .u8 0, .bool true] 58) = wa at *
              generalize wo.heap.size = G9 at *
              have hsk2 := HSK.out wa hbw S2 0 (by omega) (fun j hj => by omega) (fun h => by simp only [Nat.add_zero]; rw [g2]; rfl)
              simp only [Nat.add_zero] at hsk2
              have hc3 : wa.cell? ⟨gT, S2, none⟩ = some (.int .u8 62) := by rw [HTX.out wa hbw S2 hS2l, g2]; rfl
              have d0 := hnewB.cell 0
              have d1 := hnewB.cell 1
              have d2 := hnewB.cell 2
              have d3 := hnewB.cell 3
              have d4 := hnewB.cell 4
              simp at d0 d1 d2 d3 d4
              have hwsz := hbw.size
              have hown2 := World.ownsRow.alloc hownA (.cells #[.slice (some ⟨gT, S, none⟩) a.nm.length (cT - S), .int .i64 S2, .int .i64 S2, .int .u8 0, .bool true] 58)
              have hnc : ∀ j u, (acells gT cT S a.nm.length S2 S2 0 true).toList[j]? = some u → (wa.alloc (.cells #[.slice (some ⟨gT, S, none⟩) a.nm.length (cT - S), .int .i64 S2, .int .i64 S2, .int .u8 0, .bool true] 58)).cell? ⟨wa.heap.size, j, none⟩ = some u := fun j u h => by rw [(Blk.new wa _ 58).cell]; simpa [acells] using h
              have hn1 : ∀ u ∈ (acells gT cT S a.nm.length S2 S2 0 true).toList, u.oneCell' = true := by intro u hu; simp [acells] at hu; rcases hu with rfl | rfl | rfl | rfl | rfl <;> rfl
              have hbB : w.heap.size ≤ (wa.alloc (.cells #[.slice (some ⟨gT, S, none⟩) a.nm.length (cT - S), .int .i64 S2, .int .i64 S2, .int .u8 0, .bool true] 58)).heap.size := by simp; omega
              have HFIN : Hid (∀ v' w', w'.ownsRow w.heap.size 58 5 v' (dn.length + 1) ((found 2 dn).flatMap (fcells gT cT) ++ (acells gT cT S a.nm.length S2 S2 0 true).toList) → Below w.heap.size (wa.alloc (.cells #[.slice (some ⟨gT, S, none⟩) a.nm.length (cT - S), .int .i64 S2, .int .i64 S2, .int .u8 0, .bool true] 58)) w' → SI w gT cT ats ([] : List A).length (.int .i64 S2) v' w') := by
                intro v' w' ho' hb'
                refine SI.next hdr ho' ?_ ((hbw.alloc (by omega) _).trans hb') 0 (by omega) (fun h => by omega) _ ?_
                · have := HP.out; have := HS.out; have := HS2.out
                  simp only [fcells, fnd, hba, if_true]
                  rw [HP.out, HS.out, HS2.out]
                · have := HP.out; have := HS.out; have := HS2.out
                  simp [rend, tailOf, hba]; omega
              clear HSK HTX HDR HLE HNM hdrop2 hd2 g2 hown hownA hnewB hs
              go_wp2_with (first | (go_at_call 35; refine hsk2.mono ?_; rintro e w2 ⟨rfl, hw2⟩; have hw2 := hw2.symm; subst hw2) | (at_builtin; refine wpList_attr rfl (.tmp 109) (.tmp 111) rfl w.heap.size _ dn.length _ rfl hown2 wa.heap.size 1 (acells gT cT S a.nm.length S2 S2 0 true).toList rfl rfl hnc hn1 hdnl hbB ?_; intro v' w' ho' hb'))
              go_roundg 0
              case measure => simp at hrg; omega
              case rel => exact HFIN.out _ _ ho' hb'
            | cons b rs'' =>
              have hd2 : T.drop S2 = 32 :: (b.nm ++ (tailOf b ++ (rends rs'' ++ [62]))) := by rw [hdrop2, rends_cons]; simp [tailOf, hba, rend]
              obtain ⟨_, g2⟩ := drop_get hd2 0 (by simp)
              simp only [Nat.add_zero, List.getElem_cons_zero] at g2
              obtain ⟨hbn, hbb, _⟩ := hok b (by rw [← hdr]; simp)
              have hbl : 0 < b.nm.length := List.length_pos_iff.2 hbn
              obtain ⟨hJ, gJ⟩ := drop_get hd2 1 (by simp; omega)
              rw [List.getElem_cons_succ, List.getElem_append_left hbl] at gJ
              obtain ⟨q1, q2, q3, q4⟩ := badN_sp (hbb b.nm[0] (List.getElem_mem hbl))
              generalize b.nm[0] = cb at *
              have hst : ∀ W, Calls Try.prog 36 #[.int .u8 32] W fun e w' => e = .returned (.bool true) ∧ w' = W := fun W => hs 32 W
              have hc2 : wo.cell? ⟨gT, S2, none⟩ = some (.int .u8 32) := by rw [HTX.out wo hb S2 hS2l, g2]; rfl
              go_upto_region 10 with (first | (go_at_call 36; refine (hst _).mono ?_; rintro e w2 ⟨rfl, hw2⟩; have hw2 := hw2.symm; subst hw2))
              have hnewB : Blk (wo.alloc (.cells #[.slice (some ⟨gT, S, none⟩) a.nm.length (cT - S), .int .i64 S2, .int .i64 S2, .int .u8 0, .bool true] 58)) wo.heap.size #[.slice (some ⟨gT, S, none⟩) a.nm.length (cT - S), .int .i64 S2, .int .i64 S2, .int .u8 0, .bool true] 58 := Blk.new wo _ 58
              have hbel : Below wo.heap.size wo (wo.alloc (.cells #[.slice (some ⟨gT, S, none⟩) a.nm.length (cT - S), .int .i64 S2, .int .i64 S2, .int .u8 0, .bool true] 58)) := (Below.refl _ _).alloc (Nat.le_refl _) _
              have hbw := hb.trans (hbel.mono hb.size)
              have hownA := own_keep hown hbel
              clear hc2 hbel
              generalize wo.alloc (.cells #[.slice (some ⟨gT, S, none⟩) a.nm.length (cT - S), .int .i64 S2, .int .i64 S2, .int .u8 0, .bool true] 58) = wa at *
              generalize wo.heap.size = G9 at *
              have hsk2 := HSK.out wa hbw S2 1 (by omega) (fun j hj h => by obtain rfl : j = 0 := (by omega); simp only [Nat.add_zero]; rw [g2]; rfl) (fun h => by rw [gJ]; exact q1)
              have hc3 : wa.cell? ⟨gT, S2 + 1, none⟩ = some (.int .u8 (cb.toNat : Int)) := by rw [HTX.out wa hbw (S2 + 1) hJ, gJ]
              have n47 : ((cb.toNat : Int) == 47) = false := tst q2
              have n61 : ((cb.toNat : Int) == 61) = false := tst q4
              obtain ⟨J, HJ⟩ : ∃ J, Hid (S2 + 1 = J) := ⟨_, rfl⟩
              rw [HJ.out] at hsk2 hc3 hJ
              have d0 := hnewB.cell 0
              have d1 := hnewB.cell 1
              have d2 := hnewB.cell 2
              have d3 := hnewB.cell 3
              have d4 := hnewB.cell 4
              simp at d0 d1 d2 d3 d4
              have hwsz := hbw.size
              have hown2 := World.ownsRow.alloc hownA (.cells #[.slice (some ⟨gT, S, none⟩) a.nm.length (cT - S), .int .i64 S2, .int .i64 S2, .int .u8 0, .bool true] 58)
              have hnc : ∀ j u, (acells gT cT S a.nm.length S2 S2 0 true).toList[j]? = some u → (wa.alloc (.cells #[.slice (some ⟨gT, S, none⟩) a.nm.length (cT - S), .int .i64 S2, .int .i64 S2, .int .u8 0, .bool true] 58)).cell? ⟨wa.heap.size, j, none⟩ = some u := fun j u h => by rw [(Blk.new wa _ 58).cell]; simpa [acells] using h
              have hn1 : ∀ u ∈ (acells gT cT S a.nm.length S2 S2 0 true).toList, u.oneCell' = true := by intro u hu; simp [acells] at hu; rcases hu with rfl | rfl | rfl | rfl | rfl <;> rfl
              have hbB : w.heap.size ≤ (wa.alloc (.cells #[.slice (some ⟨gT, S, none⟩) a.nm.length (cT - S), .int .i64 S2, .int .i64 S2, .int .u8 0, .bool true] 58)).heap.size := by simp; omega
              have HFIN : Hid (∀ v' w', w'.ownsRow w.heap.size 58 5 v' (dn.length + 1) ((found 2 dn).flatMap (fcells gT cT) ++ (acells gT cT S a.nm.length S2 S2 0 true).toList) → Below w.heap.size (wa.alloc (.cells #[.slice (some ⟨gT, S, none⟩) a.nm.length (cT - S), .int .i64 S2, .int .i64 S2, .int .u8 0, .bool true] 58)) w' → SI w gT cT ats (b :: rs'').length (.int .i64 J) v' w') := by
                intro v' w' ho' hb'
                refine SI.next hdr ho' ?_ ((hbw.alloc (by omega) _).trans hb') 1 (by omega) (fun h => by simp) _ ?_
                · have := HP.out; have := HS.out; have := HS2.out
                  simp only [fcells, fnd, hba, if_true]
                  rw [HP.out, HS.out, HS2.out]
                · have := HP.out; have := HS.out; have := HS2.out; have := HJ.out
                  simp [rend, tailOf, hba]; omega
              clear HSK HTX HDR HLE HNM hdrop2 hd2 g2 gJ q1 q2 q3 q4 hown hownA hnewB hs hbn hbb hbl
              go_wp2_with (first | (go_at_call 35; refine hsk2.mono ?_; rintro e w2 ⟨rfl, hw2⟩; have hw2 := hw2.symm; subst hw2) | (at_builtin; refine wpList_attr rfl (.tmp 109) (.tmp 111) rfl w.heap.size _ dn.length _ rfl hown2 wa.heap.size 1 (acells gT cT S a.nm.length S2 S2 0 true).toList rfl rfl hnc hn1 hdnl hbB ?_; intro v' w' ho' hb'))
              go_roundg (b :: rs'').length
              case measure => simp at hrg ⊢; omega
              case rel => exact HFIN.out _ _ ho' hb'
end Go.Proofs.Qxb6000880a
