/- The multipart reader's own looks at a line. multipart's search for a stretch of bytes. multipart's look behind a boundary's front. The place of the last byte c. multipart's scan of what is buffered. multipart's scan, walked. The buffered reader's Read, of what is buffered. The plain law of a part's body: what the steps of its scan come to. A part that is being read: what holds between two reads. -/
import Derived.Test.YtekndndhgkdggaaGreatDoorR7
namespace Go.Proofs.YtekndndhgkdggaaGreatDoor
open Go.RowKit

/-- the multipart reader: its end of lines, how many parts have come; none of its slices lies in a block of S. -/
structure MRS (S : List Nat) (w : World) (MR : Nat) (h : Hs) (bd nl : Bs) (cur : Value) (parts : Nat) : Prop where
  ex : ∃ t v1 v2 v3 v4, Blk w MR #[.pointer (some ⟨h.BR, 0, none⟩), t, cur, .int .i64 (parts : Int), v1, v2, v3, v4] 81 ∧
    BS (MR :: S) w v1 nl ∧ BS (MR :: S) w v2 (nl ++ [45, 45] ++ bd) ∧ BS (MR :: S) w v3 ([45, 45] ++ bd ++ [45, 45]) ∧ BS (MR :: S) w v4 ([45, 45] ++ bd)
  bnd : bd.length ≤ 100 ∧ nl.length ≤ 2 ∧ parts ≤ 1000

theorem MRS.chg {S : List Nat} {w w' : World} {MR : Nat} {h : Hs} {bd nl : Bs} {cur : Value} {parts : Nat} (hm : MRS S w MR h bd nl cur parts) (hc : Chg S w w') (hn : MR ∉ S) : MRS S w' MR h bd nl cur parts := by
  obtain ⟨⟨t, v1, v2, v3, v4, hb, h1, h2, h3, h4⟩, hbn⟩ := hm
  have hc' : Chg (MR :: S) w w' := hc.mono (fun x hx => List.mem_cons_of_mem _ hx)
  exact ⟨⟨t, v1, v2, v3, v4, hb.chg hc hn, h1.chg hc', h2.chg hc', h3.chg hc', h4.chg hc'⟩, hbn⟩

theorem beg_len {l p : Bs} (h : begB l p = true) : p.length ≤ l.length := by
  unfold begB at h
  exact (List.isPrefixOf_iff_prefix.1 h).length_le

set_option maxRecDepth 100000 in
set_option maxHeartbeats 1000000 in
theorem isFinal_any {S S' : List Nat} {w : World} {MR : Nat} {h : Hs} {bd nl : Bs} {cur : Value} {parts : Nat} {v : Value} {l : Bs} (hm : MRS S w MR h bd nl cur parts) (hv : BS S' w v l) (hl : l.length ≤ 3000) :
    Calls Tryz.prog 46 #[.pointer (some ⟨MR, 0, none⟩), v] w fun e w' => e = .returned (.bool (finalB bd nl l)) ∧ w = w' := by
  obtain ⟨⟨t, v1, v2, v3, v4, hb, h1, h2, h3, h4⟩, hbn⟩ := hm
  have c6 : w.cell? ⟨MR, 6, none⟩ = some v3 := hb.cell 6
  have c4 : w.cell? ⟨MR, 4, none⟩ = some v1 := hb.cell 4
  clear hb h2 h4
  obtain ⟨a, c, rfl, hlc, _⟩ := id hv
  have hpl : ([45, 45] ++ bd ++ [45, 45] : Bs).length ≤ 104 := by simp; omega
  have hp := Lib.hid (hasPrefix_any hv h3 (by omega) (by omega))
  obtain ⟨a3, cc3, rfl, hlc3, _⟩ := id h3
  unfold finalB behindB
  generalize ([45, 45] ++ bd ++ [45, 45] : Bs) = p at *
  cases hbg : begB l p with
  | false =>
    rw [hbg] at hp
    simp only [Bool.false_eq_true, if_false]
    clear hbg hv h1 h3
    go_enter Tryz.func46, Tryz.ntmps46
    go_wp2_with fail
    refine hp.out.mono ?_
    rintro e w' ⟨rfl, rfl⟩
    go_wp2
    go_ret
    exact ⟨rfl, rfl⟩
  | true =>
    rw [hbg] at hp
    simp only [if_true]
    have hple := beg_len hbg
    have hsk := Lib.hid (skip_any (hv.drop p.length hple) (by simp; omega))
    have sl := fun wy => slice22_l a l.length c .i64 (p.length : Int) (by omega) (by omega) wy
    simp only [Int.toNat_natCast] at sl
    generalize Value.slice (subA a c p.length) (l.length - p.length) (c - p.length) = V at sl hsk
    generalize dropBl (l.drop p.length) = m at *
    have H1 := Lib.hid h1
    clear hbg hv h1 h3 hple
    go_enter Tryz.func46, Tryz.ntmps46
    go_wp2_with fail
    refine hp.out.mono ?_
    rintro e w' ⟨rfl, rfl⟩
    go_wp2_with fail
    refine hsk.out.mono ?_
    rintro e w' ⟨⟨u, rfl, hu⟩, rfl⟩
    obtain ⟨a5, c5, rfl, hlc5, _⟩ := id hu
    have heq := Lib.hid (equal_any hu H1.out)
    clear hu
    by_cases hm0 : m = []
    · subst hm0
      simp only [List.length_nil] at *
      go_wp2
      go_ret
      exact ⟨rfl, rfl⟩
    · have hz : ((m.length : Int) == 0) = false := by rw [beq_eq_false_iff_ne]; have := List.length_pos_iff.2 hm0; omega
      have hmn : (m == []) = false := by simpa using hm0
      clear hm0
      go_wp2_with fail
      refine heq.out.mono ?_
      rintro e w' ⟨rfl, rfl⟩
      go_wp2
      go_ret
      exact ⟨by rw [hmn]; rfl, rfl⟩

def DelimPost (S : List Nat) (w : World) (MR : Nat) (h : Hs) (bd nl : Bs) (cur : Value) (parts : Nat) (l : Bs) (e : Ending) (w' : World) : Prop :=
  e = .returned (.bool (delimB bd (nlB bd nl parts l) l)) ∧ Chg [MR] w w' ∧ MRS S w' MR h bd (nlB bd nl parts l) cur parts

set_option maxRecDepth 100000 in
set_option maxHeartbeats 1000000 in
theorem isDelim_any {S S' : List Nat} {w : World} {MR : Nat} {h : Hs} {bd nl : Bs} {cur : Value} {parts : Nat} {v : Value} {l : Bs} (hm : MRS S w MR h bd nl cur parts) (hf : parts = 0 → nl = [13, 10]) (hv : BS (MR :: S') w v l) (hl : l.length ≤ 3000) :
    Calls Tryz.prog 47 #[.pointer (some ⟨MR, 0, none⟩), v] w (DelimPost S w MR h bd nl cur parts l) := by
  have HM := Lib.hid hm
  obtain ⟨⟨t, v1, v2, v3, v4, hb, h1, h2, h3, h4⟩, hbn⟩ := hm
  have c7 : w.cell? ⟨MR, 7, none⟩ = some v4 := hb.cell 7
  have c4 : w.cell? ⟨MR, 4, none⟩ = some v1 := hb.cell 4
  have c5 : w.cell? ⟨MR, 5, none⟩ = some v2 := hb.cell 5
  have c3 : w.cell? ⟨MR, 3, none⟩ = some (.int .i64 (parts : Int)) := hb.cell 3
  have f4 : w.frozen? ⟨MR, 4, none⟩ = false := hb.free 4
  have f5 : w.frozen? ⟨MR, 5, none⟩ = false := hb.free 5
  obtain ⟨a, c, rfl, hlc, _⟩ := id hv
  have hpl : ([45, 45] ++ bd : Bs).length ≤ 102 := by simp; omega
  have hp := Lib.hid (hasPrefix_any hv h4 (by omega) (by omega))
  obtain ⟨a3, cc3, rfl, hlc3, _⟩ := id h4
  have HB := Lib.hid (And.intro hb (And.intro h1 (And.intro h2 (And.intro h3 (And.intro h4 hbn))))); clear hb h1 h2 h3
  have hdel : delimB bd (nlB bd nl parts l) l = match behindB l ([45, 45] ++ bd) with | some rest => rest == nlB bd nl parts l | none => false := rfl
  have hnl : nlB bd nl parts l = match behindB l ([45, 45] ++ bd) with | some rest => if parts = 0 ∧ rest = [10] then [10] else nl | none => nl := rfl
  generalize hNL : nlB bd nl parts l = NL at *
  unfold behindB at hdel hnl
  generalize hDL : delimB bd NL l = DL at *
  have POST : ∀ e w', e = .returned (.bool DL) → Chg [MR] w w' → MRS S w' MR h bd NL cur parts → DelimPost S w MR h bd nl cur parts l e w' := fun e w' h1 h2 h3 => by
    unfold DelimPost; rw [hNL, hDL]; exact ⟨h1, h2, h3⟩
  have POST := Lib.hid POST
  clear hNL hDL
  generalize hpe : ([45, 45] ++ bd : Bs) = p at *
  have HPE := Lib.hid hpe; clear hpe
  cases hbg : begB l p with
  | false =>
    rw [hbg] at hp hdel hnl
    simp only [Bool.false_eq_true, if_false] at hdel hnl
    have HD := Lib.hid (And.intro hdel hnl)
    clear hbg hv h4 hdel hnl
    go_enter Tryz.func47, Tryz.ntmps47
    go_wp2_with fail
    refine hp.out.mono ?_
    rintro e w' ⟨rfl, rfl⟩
    go_wp2
    go_ret
    exact POST.out _ _ (by rw [HD.out.1]; rfl) (Chg.refl _ _) (by rw [HD.out.2]; exact HM.out)
  | true =>
    rw [hbg] at hp hdel hnl
    simp only [if_true] at hdel hnl
    have hple := beg_len hbg
    have hsk := Lib.hid (skip_any (hv.drop p.length hple) (by simp; omega))
    have sl := fun wy => slice22_l a l.length c .i64 (p.length : Int) (by omega) (by omega) wy
    simp only [Int.toNat_natCast] at sl
    generalize Value.slice (subA a c p.length) (l.length - p.length) (c - p.length) = V at sl hsk
    generalize dropBl (l.drop p.length) = m at *
    have HD := Lib.hid (And.intro hdel hnl)
    clear hbg hv h4 hple hdel hnl
    by_cases hm0 : parts = 0 ∧ m = [10]
    · obtain ⟨hp0, rfl⟩ := hm0
      have hnl0 := hf hp0
      obtain ⟨hb, h1, h2, h3, h4, hbn⟩ := HB.out
      obtain ⟨a1, cc1, rfl, hlc1, _⟩ := id h1
      obtain ⟨a2, cc2, rfl, hlc2, _⟩ := id h2
      have d1 := h1.drop 1 (by rw [hnl0]; decide)
      have d2 := h2.drop 1 (by rw [hnl0]; simp)
      have e2 : (nl ++ [45, 45] ++ bd).drop 1 = [10] ++ [45, 45] ++ bd := by rw [hnl0]; rfl
      have e1 : nl.drop 1 = [10] := by rw [hnl0]; rfl
      rw [e2] at d2
      rw [e1] at d1
      have hn1 : nl.length = 2 := by rw [hnl0]; rfl
      obtain ⟨N2, hN2⟩ : ∃ N2, N2 = (nl ++ [45, 45] ++ bd).length := ⟨_, rfl⟩
      have hN2g : 1 ≤ N2 := by rw [hN2, hnl0]; simp
      rw [hn1] at d1 c4 hb hlc1
      rw [← hN2] at d2 c5 hb hlc2
      have s1 := fun wy => slice22_l a1 2 cc1 .i64 (1 : Int) (by omega) (by omega) wy
      have s2 := fun wy => slice22_l a2 N2 cc2 .i64 (1 : Int) (by omega) (by omega) wy
      simp only [show ((1 : Int)).toNat = 1 from rfl] at s1 s2
      obtain ⟨V1, hV1⟩ : ∃ V, V = Value.slice (subA a1 cc1 1) (2 - 1) (cc1 - 1) := ⟨_, rfl⟩
      obtain ⟨V2, hV2⟩ : ∃ V, V = Value.slice (subA a2 cc2 1) (N2 - 1) (cc2 - 1) := ⟨_, rfl⟩
      rw [← hV1] at s1 d1
      rw [← hV2] at s2 d2
      have hb2 := (hb.set 4 V1).set 5 V2
      have hcm : Chg [MR] w ((w.setCell ⟨MR, 4, none⟩ V1).setCell ⟨MR, 5, none⟩ V2) := ((Chg.refl _ w).setCell (.inl (by simp)) _).setCell (.inl (by simp)) _
      have hcm2 : Chg (MR :: S) w ((w.setCell ⟨MR, 4, none⟩ V1).setCell ⟨MR, 5, none⟩ V2) := hcm.mono (by simp)
      have hNL : NL = [10] := by rw [HD.out.2]; rw [if_pos ⟨hp0, rfl⟩]
      have hDL : DL = true := by rw [HD.out.1, hNL]; rfl
      have hms : MRS S ((w.setCell ⟨MR, 4, none⟩ V1).setCell ⟨MR, 5, none⟩ V2) MR h bd NL cur parts :=
        ⟨⟨t, V1, V2, v3, _, hb2, by rw [hNL]; exact d1.chg hcm2, by rw [hNL]; exact d2.chg hcm2, by rw [HPE.out]; exact h3.chg hcm2, by rw [HPE.out]; exact h4.chg hcm2⟩, hbn.1, by rw [hNL]; decide, hbn.2.2⟩
      have g4 : ((w.setCell ⟨MR, 4, none⟩ V1).setCell ⟨MR, 5, none⟩ V2).cell? ⟨MR, 4, none⟩ = some V1 := hb2.cell 4
      have hV1s : ∃ aa cc, V1 = .slice aa 1 cc := ⟨_, _, hV1⟩
      have hV2s : ∃ aa nn cc, V2 = .slice aa nn cc := ⟨_, _, _, hV2⟩
      have HE := Lib.hid (And.intro hms (And.intro hcm (And.intro hDL d1))); clear hms hcm hcm2 hDL hNL hb2 hb h1 h2 h3 h4 hbn d1 d2 hV1 hV2 hnl0 e1 e2 hN2 HB HM hf
      subst hp0
      obtain ⟨aa1, ccc1, rfl⟩ := hV1s
      obtain ⟨aa2, nn2, ccc2, rfl⟩ := hV2s
      go_enter Tryz.func47, Tryz.ntmps47
      go_wp2_with fail
      refine hp.out.mono ?_
      rintro e w' ⟨rfl, rfl⟩
      go_wp2_with fail
      refine hsk.out.mono ?_
      rintro e w' ⟨⟨u, rfl, hu⟩, rfl⟩
      obtain ⟨a5, c5', rfl, hlc5, _⟩ := id hu
      obtain ⟨b6, o6, rfl, _, hseg6⟩ := hu.at_ (by decide)
      have hcell := hseg6.cell 0 (by decide)
      rw [Nat.add_zero] at hcell
      have hueq := Lib.hid (equal_any (hu.chg ((HE.out.2.1.mono (by simp)))) (HE.out.2.2.2.chg (HE.out.2.1.mono (by simp))))
      clear hu hseg6
      go_wp2_with fail
      refine hueq.out.mono ?_
      rintro e w' ⟨rfl, rfl⟩
      go_wp2
      go_ret
      exact POST.out _ _ (by rw [HE.out.2.2.1]; rfl) HE.out.2.1 HE.out.1
    · have hNL : NL = nl := by rw [HD.out.2, if_neg hm0]
      have hDL : DL = (m == nl) := by rw [HD.out.1, hNL]
      have HE := Lib.hid (And.intro hNL hDL)
      have H1 := Lib.hid HB.out.2.1
      clear hNL hDL HB hf
      by_cases hp0 : parts = 0
      · subst hp0
        have hmn : m ≠ [10] := fun hx => hm0 ⟨rfl, hx⟩
        clear hm0
        go_enter Tryz.func47, Tryz.ntmps47
        go_wp2_with fail
        refine hp.out.mono ?_
        rintro e w' ⟨rfl, rfl⟩
        go_wp2_with fail
        refine hsk.out.mono ?_
        rintro e w' ⟨⟨u, rfl, hu⟩, rfl⟩
        obtain ⟨a5, c5', rfl, hlc5, _⟩ := id hu
        have hueq := Lib.hid (equal_any hu H1.out)
        have hcell : m.length = 1 → ∃ b6 o6 d, a5 = some ⟨b6, o6, none⟩ ∧ w.cell? ⟨b6, o6, none⟩ = some (bv d) ∧ ((d.toNat : Int) == 10) = false := fun hx => by
          obtain ⟨b6, o6, rfl, _, hseg6⟩ := hu.at_ (by omega)
          refine ⟨b6, o6, m.getD 0 0, rfl, by have := hseg6.cell 0 (by omega); simpa using this, bv_ne 10 _ rfl (fun h10 => ?_)⟩
          match m, hx, hmn, h10 with
          | [x], _, hmn, h10 => exact hmn (by simp at h10; rw [h10])
        have HC := Lib.hid hcell; clear hcell hu hmn
        by_cases hl1 : m.length = 1
        · obtain ⟨b6, o6, d, rfl, hcd, hd⟩ := HC.out hl1
          have hz : ((m.length : Int) == 1) = true := by rw [beq_iff_eq]; omega
          rw [hl1] at hueq ⊢
          have HL := Lib.hid hl1; clear hl1 hz
          go_wp2_with fail
          refine hueq.out.mono ?_
          rintro e w' ⟨rfl, rfl⟩
          go_wp2
          go_ret
          exact POST.out _ _ (by rw [HE.out.2]; rfl) (Chg.refl _ _) (by rw [HE.out.1]; exact HM.out)
        · have hz : ((m.length : Int) == 1) = false := by rw [beq_eq_false_iff_ne]; omega
          clear hl1
          go_wp2_with fail
          refine hueq.out.mono ?_
          rintro e w' ⟨rfl, rfl⟩
          go_wp2
          go_ret
          exact POST.out _ _ (by rw [HE.out.2]; rfl) (Chg.refl _ _) (by rw [HE.out.1]; exact HM.out)
      · have hz : ((parts : Int) == 0) = false := by rw [beq_eq_false_iff_ne]; omega
        clear hm0 hp0
        go_enter Tryz.func47, Tryz.ntmps47
        go_wp2_with fail
        refine hp.out.mono ?_
        rintro e w' ⟨rfl, rfl⟩
        go_wp2_with fail
        refine hsk.out.mono ?_
        rintro e w' ⟨⟨u, rfl, hu⟩, rfl⟩
        obtain ⟨a5, c5', rfl, hlc5, _⟩ := id hu
        have hueq := Lib.hid (equal_any hu H1.out)
        clear hu
        go_wp2_with fail
        refine hueq.out.mono ?_
        rintro e w' ⟨rfl, rfl⟩
        go_wp2
        go_ret
        exact POST.out _ _ (by rw [HE.out.2]; rfl) (Chg.refl _ _) (by rw [HE.out.1]; exact HM.out)
end Go.Proofs.YtekndndhgkdggaaGreatDoor

namespace Go.Proofs.YtekndndhgkdggaaGreatDoor
open Go.RowKit

/-- the first place at which p begins in l, or -1 -/
def fndB (p : Bs) : Bs → Int
  | [] => if p = [] then 0 else -1
  | d :: r => if begB (d :: r) p then 0 else if fndB p r = -1 then -1 else fndB p r + 1

theorem fndB_ge (p l : Bs) : -1 ≤ fndB p l := by
  induction l with
  | nil => unfold fndB; split <;> omega
  | cons d r ih => unfold fndB; split <;> (try split) <;> omega

theorem fndB_cons (p : Bs) (d : UInt8) (r : Bs) : fndB p (d :: r) = if begB (d :: r) p then 0 else if fndB p r = -1 then -1 else fndB p r + 1 := rfl

theorem fndB_short (p : Bs) : ∀ l : Bs, l.length < p.length → fndB p l = -1
  | [], h => by unfold fndB; rw [if_neg (fun e => by rw [e] at h; cases h)]
  | d :: r, h => by
    rw [fndB_cons, begB_short _ _ h, fndB_short p r (by simp at h; omega)]; rfl

set_option maxRecDepth 100000 in
set_option maxHeartbeats 1000000 in
theorem mIndex_any {S S' : List Nat} {w : World} {v v' : Value} {l p : Bs} (h : BS S w v l) (h' : BS S' w v' p) (hl : l.length ≤ 100000) (hp : 0 < p.length ∧ p.length ≤ 1000) :
    Calls Tryz.prog 149 #[v, v'] w fun e w' => e = .returned (.int .i64 (fndB p l)) ∧ ∃ n, w' = w.drewN n := by
  obtain ⟨a, cp, rfl, hlc, _⟩ := id h
  obtain ⟨a', cp', rfl, _, _⟩ := id h'
  have hconv : ∀ n, (convert 22 9 (.slice a' p.length cp')).run Tryz.prog (w.drewN n) = .ok (.string (bstr p)) (w.drewN n) := fun n => conv22_9 (h'.drewN n)
  obtain ⟨N, hN⟩ : ∃ N, N = l.length := ⟨_, rfl⟩
  rw [← hN] at h hlc ⊢
  have hN1 : N ≤ 100000 := by omega
  obtain ⟨M, hM⟩ : ∃ M, M = p.length := ⟨_, rfl⟩
  rw [← hM] at hconv hp ⊢
  obtain ⟨hp0, hp1⟩ := hp
  have H := Lib.hid (And.intro h (And.intro hN hM)); clear h h' hl hN hM
  go_enter Tryz.func149, Tryz.ntmps149
  go_wp2
  go_loopw [5] (fun v wr => ∃ i n : Nat, v = .int .i64 (i : Int) ∧ i ≤ N ∧ Hid (fndB p l = if fndB p (l.drop i) = -1 then -1 else i + fndB p (l.drop i)) ∧ wr = w.drewN n) (fun v _ => N + 1 - (intOf v).toNat)
  case atStart => exact ⟨0, 0, rfl, Nat.zero_le _, by unfold Hid; simp only [List.drop_zero]; split <;> simp_all, rfl⟩
  case round =>
    obtain ⟨i, n, rfl, hi, HQ, rfl⟩ := hrel
    obtain ⟨q, hq⟩ : ∃ q, q = i + M := ⟨_, rfl⟩
    have hwq : IntKind.i64.wrap ((i : Int) + (M : Int)) = (q : Int) := by rw [IntWalk.i64_in _ (by omega)]; omega
    by_cases hiN : q ≤ N
    · have hd := drop_at (l := l) (i := i) (by rw [← H.out.2.1]; omega)
      have hle : decide (q ≤ N) = true := by simpa using hiN
      have sl := fun wy => slice22_lh a N cp .i64 .i64 (i : Int) (q : Int) (by omega) (by omega) (by omega) wy
      simp only [Int.toNat_natCast, show q - i = M from by omega] at sl
      have hcv : ∀ k, (convert 22 9 (.slice (subA a cp i) M (cp - i))).run Tryz.prog (w.drewN k) = .ok (.string (bstr ((l.drop i).take M))) (w.drewN k) := fun k => conv22_9 (((H.out.1.drop i hi).take M (by omega)).drewN k)
      have hbq : ((l.drop i).take M == p) = begB (l.drop i) p := by rw [H.out.2.2]; exact begB_eq _ _
      generalize Value.slice (subA a cp i) M (cp - i) = V at sl hcv
      generalize (l.drop i).take M = sub at hcv hbq
      have hi1 : i + 1 ≤ N := by omega
      have HD := Lib.hid (And.intro hd hq); clear hd hq
      cases hdc : begB (l.drop i) p with
      | true =>
        rw [hdc] at hbq
        have hr : fndB p l = (i : Int) := by
          have hz : fndB p (l.drop i) = 0 := by rw [HD.out.1] at hdc ⊢; rw [fndB_cons, hdc]; rfl
          rw [HQ.out, hz]; simp
        have HR := Lib.hid hr; clear hr hdc
        have hsp : sub = p := by simpa using hbq
        have HSP := Lib.hid (And.intro hsp hbq); clear hsp
        go_wp2
        go_quiet (fail)
        go_wp2
        go_ret
        exact ⟨by rw [HR.out]; rfl, n + nq, by rw [← drewN_two]⟩
      | false =>
        rw [hdc] at hbq
        have hr : fndB p l = if fndB p (l.drop (i + 1)) = -1 then -1 else ((i + 1 : Nat) : Int) + fndB p (l.drop (i + 1)) := by
          rw [HD.out.1] at hdc
          rw [HQ.out, HD.out.1, fndB_cons, hdc]
          simp only [Bool.false_eq_true, if_false]
          have hge := fndB_ge p (l.drop (i + 1))
          generalize fndB p (l.drop (i + 1)) = X at *
          by_cases h1 : X = -1
          · rw [if_pos h1, if_pos rfl, if_pos h1]
          · rw [if_neg h1, if_neg (by omega), if_neg h1]; omega
        have HR := Lib.hid hr; clear hr hdc
        go_wp2
        go_quiet (fail)
        go_wp2
        go_roundw
        case measure => simp [intOf]; omega
        case rel => exact ⟨i + 1, n + nq, by simp, hi1, HR.out, by rw [← drewN_two]⟩
    · have hr : fndB p l = -1 := by
        have h0 : fndB p (l.drop i) = -1 := fndB_short p _ (by rw [List.length_drop, ← H.out.2.1, ← H.out.2.2]; omega)
        rw [HQ.out, h0]; rfl
      have HR := Lib.hid hr; clear hr
      have hle : decide (q ≤ N) = false := by simp; omega
      have HQQ := Lib.hid (And.intro hiN hq); clear hiN hq
      go_wp2
      go_ret
      exact ⟨by rw [HR.out]; rfl, n, rfl⟩
end Go.Proofs.YtekndndhgkdggaaGreatDoor

namespace Go.Proofs.YtekndndhgkdggaaGreatDoor
open Go.RowKit

/-- 1: it is a boundary's line; -1: it is none; 0: not known yet. fin: nothing comes any more. -/
def aftB (fin : Bool) : Bs → Int
  | [] => if fin then 1 else 0
  | c :: r => if c = 32 ∨ c = 9 ∨ c = 13 ∨ c = 10 then 1 else if c = 45 then (match r with | [] => if fin then -1 else 0 | d :: _ => if d = 45 then 1 else -1) else -1

def errV (fin : Bool) (q : Addr) : Value := if fin then erv q else .nilIface

def AftPost (w : World) (fin : Bool) (rest : Bs) (e : Ending) (w' : World) : Prop := e = .returned (.int .i64 (aftB fin rest)) ∧ w = w'

set_option maxRecDepth 100000 in
set_option maxHeartbeats 1000000 in
theorem after_any {S : List Nat} {w : World} {v : Value} {l : Bs} {a' : Option Addr} {M c' : Nat} (fin : Bool) (q : Addr) (h : BS S w v l) (hM : M ≤ l.length) (hl : l.length ≤ 100000) :
    Calls Tryz.prog 148 #[v, .slice a' M c', errV fin q] w (AftPost w fin (l.drop M)) := by
  obtain ⟨a, cp, rfl, hlc, _⟩ := id h
  obtain ⟨N, hN⟩ : ∃ N, N = l.length := ⟨_, rfl⟩
  rw [← hN] at h hlc hM hl ⊢
  by_cases hMN : N = M
  · have hd : l.drop M = [] := List.drop_eq_nil_of_le (by omega)
    rw [hd]
    have hz : ((N : Int) == (M : Int)) = true := by rw [beq_iff_eq]; omega
    clear hN hd h
    subst hMN
    cases fin with
    | false =>
      unfold errV
      simp only [Bool.false_eq_true, if_false]
      go_enter Tryz.func148, Tryz.ntmps148
      go_wp2
      go_ret
      exact ⟨rfl, rfl⟩
    | true =>
      unfold errV
      simp only [if_true]
      go_enter Tryz.func148, Tryz.ntmps148
      go_wp2
      go_ret
      exact ⟨rfl, rfl⟩
  · obtain ⟨b, o, rfl, _, hseg⟩ := h.at_ (by omega)
    have hz : ((N : Int) == (M : Int)) = false := by rw [beq_eq_false_iff_ne]; omega
    have hcell := hseg.cell M (by omega)
    have hd := drop_at (l := l) (i := M) (by omega)
    rw [hd]
    have hMN2 : M < N := by omega
    have hMI : (M : Int) < (N : Int) := by omega
    by_cases hN1 : N = M + 1
    · have hd2 : l.drop (M + 1) = [] := List.drop_eq_nil_of_le (by omega)
      rw [hd2]
      generalize l.getD M 0 = c at *
      clear hd hd2 hseg h hN hMN
      subst hN1
      by_cases h32 : c = 32
      · subst h32
        go_enter Tryz.func148, Tryz.ntmps148
        go_wp2
        go_ret
        exact ⟨rfl, rfl⟩
      · have n32 : ((c.toNat : Int) == 32) = false := bv_ne 32 _ rfl h32
        by_cases h9 : c = 9
        · subst h9
          go_enter Tryz.func148, Tryz.ntmps148
          go_wp2
          go_ret
          exact ⟨rfl, rfl⟩
        · have n9 : ((c.toNat : Int) == 9) = false := bv_ne 9 _ rfl h9
          by_cases h13 : c = 13
          · subst h13
            go_enter Tryz.func148, Tryz.ntmps148
            go_wp2
            go_ret
            exact ⟨rfl, rfl⟩
          · have n13 : ((c.toNat : Int) == 13) = false := bv_ne 13 _ rfl h13
            by_cases h10 : c = 10
            · subst h10
              go_enter Tryz.func148, Tryz.ntmps148
              go_wp2
              go_ret
              exact ⟨rfl, rfl⟩
            · have n10 : ((c.toNat : Int) == 10) = false := bv_ne 10 _ rfl h10
              by_cases h45 : c = 45
              · subst h45
                cases fin with
                | false =>
                  unfold errV
                  simp only [Bool.false_eq_true, if_false]
                  go_enter Tryz.func148, Tryz.ntmps148
                  go_wp2
                  go_ret
                  exact ⟨rfl, rfl⟩
                | true =>
                  unfold errV
                  simp only [if_true]
                  go_enter Tryz.func148, Tryz.ntmps148
                  go_wp2
                  go_ret
                  exact ⟨rfl, rfl⟩
              · have n45 : ((c.toNat : Int) == 45) = false := bv_ne 45 _ rfl h45
                have ho : ∀ r, aftB fin (c :: r) = -1 := fun r => by unfold aftB; simp [h32, h9, h13, h10, h45]
                have HO := Lib.hid ho; clear ho h32 h9 h13 h10 h45
                go_enter Tryz.func148, Tryz.ntmps148
                go_wp2
                go_ret
                exact ⟨by rw [HO.out]; rfl, rfl⟩
    · have hd2 := drop_at (l := l) (i := M + 1) (by omega)
      rw [hd2]
      have hcell2 := hseg.cell (M + 1) (by omega)
      have hz1 : ((N : Int) == (M : Int) + 1) = false := by rw [beq_eq_false_iff_ne]; omega
      have hMN3 : M + 1 < N := by omega
      have hMI3 : (M : Int) + 1 < (N : Int) := by omega
      generalize l.getD M 0 = c at *
      generalize l.getD (M + 1) 0 = d at *
      generalize l.drop (M + 1 + 1) = rr at *
      clear hd hd2 hseg h hN hMN hN1
      by_cases h32 : c = 32
      · subst h32
        go_enter Tryz.func148, Tryz.ntmps148
        go_wp2
        go_ret
        exact ⟨rfl, rfl⟩
      · have n32 : ((c.toNat : Int) == 32) = false := bv_ne 32 _ rfl h32
        by_cases h9 : c = 9
        · subst h9
          go_enter Tryz.func148, Tryz.ntmps148
          go_wp2
          go_ret
          exact ⟨rfl, rfl⟩
        · have n9 : ((c.toNat : Int) == 9) = false := bv_ne 9 _ rfl h9
          by_cases h13 : c = 13
          · subst h13
            go_enter Tryz.func148, Tryz.ntmps148
            go_wp2
            go_ret
            exact ⟨rfl, rfl⟩
          · have n13 : ((c.toNat : Int) == 13) = false := bv_ne 13 _ rfl h13
            by_cases h10 : c = 10
            · subst h10
              go_enter Tryz.func148, Tryz.ntmps148
              go_wp2
              go_ret
              exact ⟨rfl, rfl⟩
            · have n10 : ((c.toNat : Int) == 10) = false := bv_ne 10 _ rfl h10
              by_cases h45 : c = 45
              · subst h45
                by_cases hd45 : d = 45
                · subst hd45
                  go_enter Tryz.func148, Tryz.ntmps148
                  go_wp2
                  go_ret
                  exact ⟨rfl, rfl⟩
                · have nd : ((d.toNat : Int) == 45) = false := bv_ne 45 _ rfl hd45
                  have ho : ∀ r, aftB fin (45 :: d :: r) = -1 := fun r => by unfold aftB; simp [hd45]
                  have HO := Lib.hid ho; clear ho hd45
                  go_enter Tryz.func148, Tryz.ntmps148
                  go_wp2
                  go_ret
                  exact ⟨by rw [HO.out]; rfl, rfl⟩
              · have n45 : ((c.toNat : Int) == 45) = false := bv_ne 45 _ rfl h45
                have ho : ∀ r, aftB fin (c :: r) = -1 := fun r => by unfold aftB; simp [h32, h9, h13, h10, h45]
                have HO := Lib.hid ho; clear ho h32 h9 h13 h10 h45
                go_enter Tryz.func148, Tryz.ntmps148
                go_wp2
                go_ret
                exact ⟨by rw [HO.out]; rfl, rfl⟩
end Go.Proofs.YtekndndhgkdggaaGreatDoor

namespace Go.Proofs.YtekndndhgkdggaaGreatDoor
open Go.RowKit

def lasI (c : UInt8) (l : Bs) : Int := match lastB c l with | some i => (i : Int) | none => -1

theorem lastB_snoc (c d : UInt8) (x : Bs) : lastB c (x ++ [d]) = if d = c then some x.length else lastB c x := by
  induction x with
  | nil => simp [lastB]
  | cons e r ih =>
    simp only [List.cons_append, lastB, ih]
    by_cases h : d = c
    · simp [h]
    · simp [h]

set_option maxRecDepth 100000 in
set_option maxHeartbeats 1000000 in
theorem lastIdx_any {S : List Nat} {w : World} {v : Value} {l : Bs} (c : UInt8) (h : BS S w v l) (hl : l.length ≤ 100000) :
    Calls Tryz.prog 151 #[v, bv c] w fun e w' => e = .returned (.int .i64 (lasI c l)) ∧ w = w' := by
  obtain ⟨a, cp, rfl, hlc, _⟩ := id h
  obtain ⟨N, hN⟩ : ∃ N, N = l.length := ⟨_, rfl⟩
  rw [← hN] at h hlc hl ⊢
  have hcell : Hid (∀ j, j < N → ∃ b o, a = some ⟨b, o, none⟩ ∧ w.cell? ⟨b, o + j, none⟩ = some (bv (l.getD j 0))) := fun j hj => by
    obtain ⟨b, o, rfl, _, hseg⟩ := h.at_ (by omega)
    exact ⟨b, o, rfl, hseg.cell j (by omega)⟩
  have H := Lib.hid (And.intro h hN); clear h hN
  go_enter Tryz.func151, Tryz.ntmps151
  go_wp2
  go_loop [5] (fun v => ∃ k : Nat, (v = match k with | 0 => .int .i64 (-1) | j + 1 => .int .i64 (j : Int)) ∧ k ≤ N ∧ Hid (lasI c (l.take k) = lasI c l)) (fun v => (intOf v + 1).toNat)
  case atStart =>
    refine ⟨N, ?_, Nat.le_refl _, by unfold Hid; rw [H.out.2, List.take_length]⟩
    cases N with
    | zero => rfl
    | succ j => simp [go_sem]
  case round =>
    obtain ⟨k, hv, hk, HK⟩ := hrel
    cases k with
    | zero =>
      subst hv
      go_wp2
      go_ret
      exact ⟨by rw [← HK.out]; rfl, rfl⟩
    | succ j =>
      simp only [] at hv
      subst hv
      obtain ⟨b, o, rfl, hcj⟩ := hcell.out j (by omega)
      have htk := take_at (l := l) (i := j) (by rw [← H.out.2]; omega)
      have hjl : (l.take j).length = j := by rw [List.length_take, ← H.out.2]; omega
      generalize l.getD j 0 = d at hcj htk
      have hK := HK.out
      rw [htk] at hK
      unfold lasI at hK
      rw [lastB_snoc, hjl] at hK
      have hjN : j < N := by omega
      have hjI : (j : Int) < (N : Int) := by omega
      by_cases hd : d = c
      · rw [if_pos hd] at hK
        have hr : lasI c l = (j : Int) := hK.symm
        have HR := Lib.hid hr; clear hK hr htk hjl
        subst hd
        go_wp2
        go_ret
        exact ⟨by rw [HR.out]; rfl, rfl⟩
      · rw [if_neg hd] at hK
        have hn : ((d.toNat : Int) == (c.toNat : Int)) = false := bv_ne c _ rfl hd
        have hq : lasI c (l.take j) = lasI c l := hK
        have rel1 : ∃ k : Nat, (Value.int IntKind.i64 ((j : Int) - 1) = match k with | 0 => .int .i64 (-1) | j + 1 => .int .i64 (j : Int)) ∧ k ≤ N ∧ Hid (lasI c (l.take k) = lasI c l) := by
          refine ⟨j, ?_, by omega, hq⟩
          cases j with
          | zero => rfl
          | succ j => simp
        have REL := Lib.hid rel1
        have hmes : (intOf (.int .i64 ((j : Int) - 1)) + 1).toNat < (intOf (.int .i64 (j : Int)) + 1).toNat := by simp [intOf]
        have MES := Lib.hid hmes
        clear hK hq rel1 hmes htk hjl hd
        go_wp2
        go_round
        case measure => exact MES.out
        case rel => exact REL.out

set_option maxRecDepth 100000 in
set_option maxHeartbeats 400000 in
theorem lastIndex_any {S : List Nat} {w : World} {v : Value} {l : Bs} (c : UInt8) (h : BS S w v l) (hl : l.length ≤ 100000) :
    Calls Tryz.prog 150 #[v, bv c] w fun e w' => e = .returned (.int .i64 (lasI c l)) ∧ w = w' := by
  have hi := lastIdx_any c h hl
  clear h
  go_enter Tryz.func150, Tryz.ntmps150
  go_wp2_with fail
  refine hi.mono ?_
  rintro e w' ⟨rfl, rfl⟩
  go_wp2
  go_ret
  exact ⟨rfl, rfl⟩
end Go.Proofs.YtekndndhgkdggaaGreatDoor

namespace Go.Proofs.YtekndndhgkdggaaGreatDoor
open Go.RowKit

/-- how much is surely body, and which error goes with it: 0 none, 1 the end, 2 what the reading said -/
def scanB (front line : Bs) (first fin : Bool) (l : Bs) : Nat × Nat :=
  if first && begB l front then
    (if aftB fin (l.drop front.length) = -1 then (front.length, 0) else if aftB fin (l.drop front.length) = 0 then (0, 0) else (0, 1))
  else if first && begB front l then (0, 2)
  else if 0 ≤ fndB line l then
    (if aftB fin (l.drop ((fndB line l).toNat + line.length)) = -1 then ((fndB line l).toNat + line.length, 0)
     else if aftB fin (l.drop ((fndB line l).toNat + line.length)) = 0 then ((fndB line l).toNat, 0) else ((fndB line l).toNat, 1))
  else if begB line l then (0, 2)
  else match lastB (line.headD 0) l with
    | some i => if begB line (l.drop i) then (i, 0) else (l.length, 2)
    | none => (l.length, 2)

def restB (line : Bs) (fin : Bool) (l : Bs) : Nat × Nat :=
  if 0 ≤ fndB line l then
    (if aftB fin (l.drop ((fndB line l).toNat + line.length)) = -1 then ((fndB line l).toNat + line.length, 0)
     else if aftB fin (l.drop ((fndB line l).toNat + line.length)) = 0 then ((fndB line l).toNat, 0) else ((fndB line l).toNat, 1))
  else if begB line l then (0, 2)
  else match lastB (line.headD 0) l with
    | some i => if begB line (l.drop i) then (i, 0) else (l.length, 2)
    | none => (l.length, 2)

theorem scanB_rest {front line : Bs} {first fin : Bool} {l : Bs} (h1 : (first && begB l front) = false) (h2 : (first && begB front l) = false) : scanB front line first fin l = restB line fin l := by
  unfold scanB; rw [h1, h2]; rfl

def scanE (g : Nat → Addr) (fin : Bool) (q : Addr) : Nat → Value
  | 0 => .nilIface
  | 1 => erv (g 0)
  | _ => errV fin q

def ScanPost (g : Nat → Addr) (w : World) (fin : Bool) (q : Addr) (r : Nat × Nat) (e : Ending) (w' : World) : Prop :=
  e = .returned (.tuple #[.int .i64 (r.1 : Int), scanE g fin q r.2]) ∧ ∃ n, w' = w.drewN n

theorem aft_one {fin : Bool} {l : Bs} : aftB fin l = -1 ∨ aftB fin l = 0 ∨ aftB fin l = 1 := by
  cases l with
  | nil => unfold aftB; cases fin <;> simp
  | cons c r =>
    show (if c = 32 ∨ c = 9 ∨ c = 13 ∨ c = 10 then (1 : Int) else if c = 45 then (match r with | [] => if fin then -1 else 0 | d :: _ => if d = 45 then 1 else -1) else -1) = -1 ∨ (if c = 32 ∨ c = 9 ∨ c = 13 ∨ c = 10 then (1 : Int) else if c = 45 then (match r with | [] => if fin then -1 else 0 | d :: _ => if d = 45 then 1 else -1) else -1) = 0 ∨ (if c = 32 ∨ c = 9 ∨ c = 13 ∨ c = 10 then (1 : Int) else if c = 45 then (match r with | [] => if fin then -1 else 0 | d :: _ => if d = 45 then 1 else -1) else -1) = 1
    by_cases h1 : c = 32 ∨ c = 9 ∨ c = 13 ∨ c = 10
    · simp [h1]
    · simp only [h1, if_false]
      by_cases h2 : c = 45
      · simp only [h2, if_true]
        cases r with
        | nil => cases fin <;> simp
        | cons d r => by_cases h3 : d = 45 <;> simp [h3]
      · simp [h2]

theorem begB_fit {p l : Bs} (h : begB l p = true) : p.length ≤ l.length := beg_len h

theorem fndB_fit (p : Bs) : ∀ (l : Bs) (k : Nat), fndB p l = (k : Int) → begB (l.drop k) p = true ∧ k + p.length ≤ l.length
  | [], k, h => by
    unfold fndB at h
    split at h
    · rename_i hp; subst hp
      have : k = 0 := by omega
      subst this
      exact ⟨rfl, Nat.le_refl _⟩
    · omega
  | d :: r, k, h => by
    rw [fndB_cons] at h
    cases hb : begB (d :: r) p with
    | true =>
      rw [hb] at h
      simp only [if_true] at h
      have : k = 0 := by omega
      subst this
      exact ⟨hb, by have := beg_len hb; omega⟩
    | false =>
      rw [hb] at h
      simp only [Bool.false_eq_true, if_false] at h
      have hge := fndB_ge p r
      by_cases h1 : fndB p r = -1
      · rw [if_pos h1] at h; omega
      · rw [if_neg h1] at h
        obtain ⟨j, rfl⟩ : ∃ j, k = j + 1 := ⟨k - 1, by omega⟩
        have := fndB_fit p r j (by omega)
        exact ⟨by simpa using this.1, by simp; omega⟩
end Go.Proofs.YtekndndhgkdggaaGreatDoor

namespace Go.Proofs.YtekndndhgkdggaaGreatDoor
open Go.RowKit

theorem lastB_lt2 {c : UInt8} {l : Bs} {j : Nat} (h : lastB c l = some j) : j < l.length := by
  induction l generalizing j with
  | nil => cases h
  | cons d r ih =>
    unfold lastB at h
    cases hr : lastB c r with
    | some i => rw [hr] at h; simp at h; have := ih hr; simp; omega
    | none =>
      rw [hr] at h
      by_cases hd : d = c
      · simp [hd] at h; simp; omega
      · simp [hd] at h

set_option maxRecDepth 100000 in
set_option maxHeartbeats 1000000 in
theorem scan_any {S : List Nat} {B : Nat} {g : Nat → Addr} {w : World} {v v1 v2 : Value} {l front line : Bs} (tot : Nat) (fin : Bool) (q : Addr) (hg : Glb B g w) (h : BS S w v l) (h1 : BS S w v1 front) (h2 : BS S w v2 line)
    (hl : l.length ≤ 3000) (hf : front.length ≤ 102) (hln : 0 < line.length ∧ line.length ≤ 104) :
    Calls Tryz.prog 147 #[v, v1, v2, .int .i64 (tot : Int), errV fin q] w (ScanPost g w fin q (scanB front line (tot == 0) fin l)) := by
  obtain ⟨res, hres⟩ : ∃ res, res = scanB front line (tot == 0) fin l := ⟨_, rfl⟩
  rw [← hres]
  unfold scanB at hres
  have g0 := (hg.err 0 (by omega)).1
  have HG := Lib.hid (And.intro hg (And.intro h (And.intro h1 h2))); clear hg
  obtain ⟨a, c, rfl, hlc, _⟩ := id h
  obtain ⟨a1, c1, rfl, hlc1, _⟩ := id h1
  obtain ⟨a2, c2, rfl, hlc2, _⟩ := id h2
  have p1 := Lib.hid (hasPrefix_any h h1 (by omega) (by omega))
  have p2 := Lib.hid (hasPrefix_any h1 h (by omega) (by omega))
  clear h h1 h2
  go_enter Tryz.func147, Tryz.ntmps147
  go_upto_if 15 with (fail)
  go_cut [] (fun wz => wz = w ∧ Hid (res = restB line fin l))
  case first =>
    by_cases ht : tot = 0
    · subst ht
      simp only [beq_self_eq_true, Bool.true_and] at hres
      cases hb1 : begB l front with
      | true =>
        rw [hb1] at hres p1
        simp only [if_true] at hres
        have haf := Lib.hid (after_any (a' := a1) (M := front.length) (c' := c1) fin q HG.out.2.1 (beg_len hb1) (by omega))
        rcases aft_one (fin := fin) (l := l.drop front.length) with h3 | h3 | h3
        · rw [h3] at hres
          unfold AftPost at haf
          rw [h3] at haf
          have HR := Lib.hid hres; clear hres h3 hb1
          go_wp2_with fail
          refine p1.out.mono ?_
          rintro e w' ⟨rfl, rfl⟩
          go_wp2_with fail
          refine haf.out.mono ?_
          rintro e w' ⟨rfl, rfl⟩
          go_wp2
          go_ret2
          rw [HR.out]
          exact ⟨rfl, 0, rfl⟩
        · rw [h3] at hres
          unfold AftPost at haf
          rw [h3] at haf
          have HR := Lib.hid hres; clear hres h3 hb1
          go_wp2_with fail
          refine p1.out.mono ?_
          rintro e w' ⟨rfl, rfl⟩
          go_wp2_with fail
          refine haf.out.mono ?_
          rintro e w' ⟨rfl, rfl⟩
          go_wp2
          go_ret2
          rw [HR.out]
          exact ⟨rfl, 0, rfl⟩
        · rw [h3] at hres
          unfold AftPost at haf
          rw [h3] at haf
          have HR := Lib.hid hres; clear hres h3 hb1
          go_wp2_with fail
          refine p1.out.mono ?_
          rintro e w' ⟨rfl, rfl⟩
          go_wp2_with fail
          refine haf.out.mono ?_
          rintro e w' ⟨rfl, rfl⟩
          go_wp2
          go_quiet (fail)
          go_wp2
          go_ret2
          rw [HR.out]
          exact ⟨rfl, _, rfl⟩
      | false =>
        rw [hb1] at hres p1
        cases hb2 : begB front l with
        | true =>
          rw [hb2] at hres p2
          simp only [Bool.false_eq_true, if_false, if_true] at hres
          have HR := Lib.hid hres; clear hres hb1 hb2
          go_wp2_with fail
          refine p1.out.mono ?_
          rintro e w' ⟨rfl, rfl⟩
          go_wp2_with fail
          refine p2.out.mono ?_
          rintro e w' ⟨rfl, rfl⟩
          go_wp2
          go_ret2
          rw [HR.out]
          exact ⟨rfl, 0, rfl⟩
        | false =>
          have hr : res = restB line fin l := by
            rw [hb2] at hres; simp only [Bool.false_eq_true, if_false] at hres; rw [hres]; rfl
          rw [hb2] at p2
          have HR := Lib.hid hr; clear hres hb1 hb2 hr
          go_wp2_with fail
          refine p1.out.mono ?_
          rintro e w' ⟨rfl, rfl⟩
          go_wp2_with fail
          refine p2.out.mono ?_
          rintro e w' ⟨rfl, rfl⟩
          go_wp2
          go_meet
          exact ⟨rfl, HR⟩
    · have htb : (tot == 0) = false := by simpa using ht
      have hti : ((tot : Int) == 0) = false := by rw [beq_eq_false_iff_ne]; omega
      have hr : res = restB line fin l := by
        rw [htb] at hres; simp only [Bool.false_and, Bool.false_eq_true, if_false] at hres; rw [hres]; rfl
      have HR := Lib.hid hr; clear hres hr ht htb
      go_wp2
      go_meet
      exact ⟨rfl, HR⟩
  case rest =>
    obtain ⟨rfl, HR⟩ := hcut
    clear p1 p2 hres
    obtain ⟨hg, h, h1, h2⟩ := HG.out
    have hix := Lib.hid (mIndex_any h h2 (by omega) ⟨hln.1, by omega⟩)
    have hge := fndB_ge line l
    by_cases hk : 0 ≤ fndB line l
    · obtain ⟨k, hkk⟩ : ∃ k : Nat, fndB line l = (k : Int) := ⟨(fndB line l).toNat, by omega⟩
      have hfit := fndB_fit line l k hkk
      have hd := h.drop k (by omega)
      have hrr := HR.out
      unfold restB at hrr
      rw [hkk] at hix hrr
      rw [if_pos (by omega), Int.toNat_natCast, ← List.drop_drop] at hrr
      have sl := fun wy => slice22_l a l.length c .i64 (k : Int) (by omega) (by omega) wy
      simp only [Int.toNat_natCast] at sl
      have haf := fun n => after_any (a' := a2) (M := line.length) (c' := c2) fin q (hd.drewN n) (by simp; omega) (by simp; omega)
      generalize Value.slice (subA a c k) (l.length - k) (c - k) = V at sl haf
      unfold AftPost at haf
      have hgk : decide ((k : Int) ≥ 0) = true := by simp
      obtain ⟨z, hz⟩ : ∃ z, z = k + line.length := ⟨_, rfl⟩
      have hwz : IntKind.i64.wrap ((k : Int) + (line.length : Int)) = (z : Int) := by rw [IntWalk.i64_in _ (by omega)]; omega
      have HZ := Lib.hid hz; clear hz hg h h1 h2 hd hfit hkk
      rcases aft_one (fin := fin) (l := (l.drop k).drop line.length) with h3 | h3 | h3
      · rw [h3] at hrr haf
        have HRR := Lib.hid hrr; clear hrr h3
        go_wp2_with fail
        refine hix.out.mono ?_
        rintro e w' ⟨rfl, n, rfl⟩
        go_wp2_with fail
        refine (haf n).mono ?_
        rintro e w' ⟨rfl, rfl⟩
        go_wp2
        go_ret2
        rw [HRR.out]
        exact ⟨by rw [HZ.out]; rfl, n, rfl⟩
      · rw [h3] at hrr haf
        have HRR := Lib.hid hrr; clear hrr h3
        go_wp2_with fail
        refine hix.out.mono ?_
        rintro e w' ⟨rfl, n, rfl⟩
        go_wp2_with fail
        refine (haf n).mono ?_
        rintro e w' ⟨rfl, rfl⟩
        go_wp2
        go_ret2
        rw [HRR.out]
        exact ⟨rfl, n, rfl⟩
      · rw [h3] at hrr haf
        have HRR := Lib.hid hrr; clear hrr h3
        go_wp2_with fail
        refine hix.out.mono ?_
        rintro e w' ⟨rfl, n, rfl⟩
        go_wp2_with fail
        refine (haf n).mono ?_
        rintro e w' ⟨rfl, rfl⟩
        go_wp2
        go_quiet (fail)
        go_wp2
        go_ret2
        rw [HRR.out]
        exact ⟨rfl, n + nq, by rw [← drewN_two]⟩
    · have hk1 : fndB line l = -1 := by omega
      have hrr := HR.out
      unfold restB at hrr
      rw [if_neg hk] at hrr
      rw [hk1] at hix
      have p3 := fun n => hasPrefix_any (h2.drewN n) (h.drewN n) (by omega) (by omega)
      clear hk hge hk1
      cases hb3 : begB line l with
      | true =>
        rw [hb3] at hrr p3
        simp only [if_true] at hrr
        have HRR := Lib.hid hrr; clear hrr hb3 hg h h1 h2
        go_wp2_with fail
        refine hix.out.mono ?_
        rintro e w' ⟨rfl, n, rfl⟩
        go_wp2_with fail
        refine (p3 n).mono ?_
        rintro e w' ⟨rfl, rfl⟩
        go_wp2
        go_ret2
        rw [HRR.out]
        exact ⟨rfl, n, rfl⟩
      | false =>
        rw [hb3] at hrr p3
        simp only [Bool.false_eq_true, if_false] at hrr
        obtain ⟨b2, o2, rfl, _, hseg⟩ := h2.at_ hln.1
        have hcell := fun n => (hseg.chg ((Chg.refl [] wc).drewN n) (by simp)).cell 0 hln.1
        have hhd : line.headD 0 = line.getD 0 0 := by cases line <;> rfl
        rw [hhd] at hrr
        generalize line.getD 0 0 = d0 at hrr hcell
        simp only [Nat.add_zero] at hcell
        have hla := fun n => lastIndex_any d0 (h.drewN n) (by omega)
        cases hlb : lastB d0 l with
        | none =>
          rw [hlb] at hrr
          simp only [] at hrr
          have hli : lasI d0 l = -1 := by unfold lasI; rw [hlb]
          rw [hli] at hla
          have HRR := Lib.hid hrr; clear hrr hb3 hg h h1 h2 hseg hlb hli hhd
          go_wp2_with fail
          refine hix.out.mono ?_
          rintro e w' ⟨rfl, n, rfl⟩
          have hc0 := hcell n
          have hla0 := hla n
          have p30 := p3 n
          clear hcell hla p3
          go_wp2_with fail
          refine p30.mono ?_
          rintro e w' ⟨rfl, rfl⟩
          go_wp2_with fail
          refine hla0.mono ?_
          rintro e w' ⟨rfl, rfl⟩
          go_wp2
          go_ret2
          rw [HRR.out]
          exact ⟨rfl, n, rfl⟩
        | some j =>
          rw [hlb] at hrr
          simp only [] at hrr
          have hli : lasI d0 l = (j : Int) := by unfold lasI; rw [hlb]
          rw [hli] at hla
          have hjl : j < l.length := lastB_lt2 hlb
          have hd := h.drop j (by omega)
          have sl := fun wy => slice22_l a l.length c .i64 (j : Int) (by omega) (by omega) wy
          simp only [Int.toNat_natCast] at sl
          have p4 := fun n => hasPrefix_any (h2.drewN n) (hd.drewN n) (by omega) (by simp; omega)
          generalize Value.slice (subA a c j) (l.length - j) (c - j) = V at sl p4
          have hgj : decide ((j : Int) ≥ 0) = true := by simp
          cases hb4 : begB line (l.drop j) with
          | true =>
            rw [hb4] at hrr p4
            simp only [if_true] at hrr
            have HRR := Lib.hid hrr; clear hrr hb3 hg h h1 h2 hseg hlb hli hhd hd hb4
            go_wp2_with fail
            refine hix.out.mono ?_
            rintro e w' ⟨rfl, n, rfl⟩
            have hc0 := hcell n
            have hla0 := hla n
            have p30 := p3 n
            have p40 := p4 n
            clear hcell hla p3 p4
            go_wp2_with fail
            refine p30.mono ?_
            rintro e w' ⟨rfl, rfl⟩
            go_wp2_with fail
            refine hla0.mono ?_
            rintro e w' ⟨rfl, rfl⟩
            go_wp2_with fail
            refine p40.mono ?_
            rintro e w' ⟨rfl, rfl⟩
            go_wp2
            go_ret2
            rw [HRR.out]
            exact ⟨rfl, n, rfl⟩
          | false =>
            rw [hb4] at hrr p4
            simp only [Bool.false_eq_true, if_false] at hrr
            have HRR := Lib.hid hrr; clear hrr hb3 hg h h1 h2 hseg hlb hli hhd hd hb4
            go_wp2_with fail
            refine hix.out.mono ?_
            rintro e w' ⟨rfl, n, rfl⟩
            have hc0 := hcell n
            have hla0 := hla n
            have p30 := p3 n
            have p40 := p4 n
            clear hcell hla p3 p4
            go_wp2_with fail
            refine p30.mono ?_
            rintro e w' ⟨rfl, rfl⟩
            go_wp2_with fail
            refine hla0.mono ?_
            rintro e w' ⟨rfl, rfl⟩
            go_wp2_with fail
            refine p40.mono ?_
            rintro e w' ⟨rfl, rfl⟩
            go_wp2
            go_ret2
            rw [HRR.out]
            exact ⟨rfl, n, rfl⟩
end Go.Proofs.YtekndndhgkdggaaGreatDoor

namespace Go.Proofs.YtekndndhgkdggaaGreatDoor
open Go.RowKit

theorem InS.rep2 {B : Nat} {g : Nat → Addr} {h : Hs} {w w' : World} {r r' : Nat} {rem rem' : Bs} {e e' : Value} {lb lr lb' lr' : Int} {S : List Nat} (hs : InS B g h w r rem e lb lr) (hc : Chg S w w') (hS : ∀ y ∈ S, B ≤ y ∧ y ≠ h.RD ∧ y ≠ h.ST ∧ y ≠ h.U)
    (hb : Blk w' h.BR (brc h r' (r + rem.length) e' lb' lr') 98) (hx : r' + rem'.length = r + rem.length) (hr : ∀ i, i < rem'.length → rem'.getD i 0 = rem.getD (i + r' - r) 0) (hrr : r ≤ r') : InS B g h w' r' rem' e' lb' lr' := by
  have ho := hs.ok
  have n1 : h.RD ∉ S := fun k => (hS _ k).2.1 rfl
  have n2 : h.ST ∉ S := fun k => (hS _ k).2.2.1 rfl
  have n4 : h.U ∉ S := fun k => (hS _ k).2.2.2 rfl
  have h1 := hs.gl.chg hc (fun x hx => (hS x hx).1)
  have h3 : ∃ s, Blk w' h.ST #[.iface 49 (.pointer (some ⟨h.RD, 0, none⟩)), s] 79 ∧ (s = .nilIface ∨ s = erv (g 0)) := hs.st.imp fun s k => ⟨k.1.chg hc n2, k.2⟩
  have h4 : ∃ a n c p, Blk w' h.RD #[.slice a n c, .int .i64 (n : Int), p] 83 ∧ n ≤ 3000 := hs.rd.imp fun a k => k.imp fun n k => k.imp fun c k => k.imp fun p k => ⟨k.1.chg hc n1, k.2⟩
  obtain ⟨cs, T, hu, hsz, hin⟩ := hs.u
  have hl := hs.lt
  refine ⟨h1, ho, by rw [hx]; exact hb, h3, h4, ⟨cs, T, hu.chg hc n4, hsz, fun i hi => ?_⟩, by omega⟩
  have := hin (i + r' - r) (by omega)
  rw [show r + (i + r' - r) = r' + i from by omega] at this
  rw [this, hr i hi]

set_option maxRecDepth 100000 in
set_option maxHeartbeats 1000000 in
theorem bufRead_in {B : Nat} {g : Nat → Addr} {h : Hs} {w : World} {r : Nat} {rem : Bs} {lb lr : Int} {D od n cd : Nat} {cs : Array Value} {T : TypeId} (hs : InS B g h w r rem .nilIface lb lr) (hD : Blk w D cs T) (hDn : D ∉ h.all) (hDB : B ≤ D) (hfit : od + n ≤ cs.size) (hn0 : 0 < n) (hn : n ≤ rem.length) :
    Calls Tryz.prog 141 #[.pointer (some ⟨h.BR, 0, none⟩), .slice (some ⟨D, od, none⟩) n cd] w fun e w' => e = .returned (.tuple #[.int .i64 (n : Int), .nilIface]) ∧ Chg [h.BR, D] w w' ∧
      (∃ cs', Blk w' D cs' T ∧ cs'.size = cs.size ∧ (∀ i, i < n → cs'[od + i]? = some (bv (rem.getD i 0))) ∧ (∀ i, i < od ∨ od + n ≤ i → cs'[i]? = cs[i]?)) ∧ ∃ lb' lr', InS B g h w' (r + n) (rem.drop n) .nilIface lb' lr' := by
  have hl := hs.lt
  obtain ⟨x, hx⟩ : ∃ x, x = r + rem.length := ⟨_, rfl⟩
  have hb := hs.br
  rw [← hx] at hb hl
  obtain ⟨c0, c1, c2, c3, c4, c5, c6, f2, f3, f4, f5, f6⟩ := br_cells hb
  have hrx : ((r : Int) == (x : Int)) = false := by rw [beq_eq_false_iff_ne]; omega
  have hnz : ((n : Int) == 0) = false := by rw [beq_eq_false_iff_ne]; omega
  have H := Lib.hid (And.intro hs (And.intro hb hx)); clear hs hb hx
  go_enter Tryz.func141, Tryz.ntmps141
  go_wp2
  go_quiet (fail)
  go_wp2
  obtain ⟨hs, hb, hx⟩ := H.out
  have ho := hs.ok
  have hDBR : h.BR ≠ D := fun e => hDn (by rw [← e]; unfold Hs.all; simp)
  have hDU : h.U ≠ D := fun e => hDn (by rw [← e]; unfold Hs.all; simp)
  have hcd : Chg [] w (w.drewN nq) := (Chg.refl _ w).drewN nq
  have hbd := hb.drewN nq
  have hDd := hD.drewN nq
  have hsg := hs.seg.chg hcd (by simp)
  have hsd := hs.draw hcd (by simp)
  clear c0 c1 c2 c3 c4 c5 c6 f2 f3 f4 f5 f6
  generalize w.drewN nq = wd at *
  obtain ⟨c0, c1, c2, c3, c4, c5, c6, f2, f3, f4, f5, f6⟩ := br_cells hbd
  obtain ⟨w2, cs2, hcopy, hch, hD2, hs2, hin2, hout2⟩ := copy_to wd.drew 3 D od n cd cs T (some ⟨h.U, r, none⟩) (x - r) (4096 - r) (rem.take n) hDd.drew (by simp; omega)
    (fun j hj => ⟨h.U, r, rfl, (hsg.take n).cell j hj⟩) (by simp; omega)
  have htl : (rem.take n).length = n := by simp; omega
  rw [htl] at hcopy hin2 hout2
  have hb2 : Blk w2 h.BR (brc h r x .nilIface lb lr) 98 := hbd.drew.chg hch (by simpa using hDBR)
  have sl := fun wy => slice22_lh (some ⟨h.U, 0, none⟩) 4096 4096 .i64 .i64 (r : Int) (x : Int) (by omega) (by omega) (by omega) wy
  simp only [Int.toNat_natCast] at sl
  rw [subA_some _ _ _ _ (by omega), Nat.zero_add] at sl
  generalize Value.slice (some ⟨h.U, r, none⟩) (x - r) (4096 - r) = V at sl hcopy
  obtain ⟨z, hz⟩ : ∃ z, z = r + n := ⟨_, rfl⟩
  have hwz : IntKind.i64.wrap ((r : Int) + (n : Int)) = (z : Int) := by rw [IntWalk.i64_in _ (by omega)]; omega
  obtain ⟨d0, d1, d2, d3, d4, d5, d6, e2, e3, e4, e5, e6⟩ := br_cells hb2
  have HX := Lib.hid (And.intro hs (And.intro hsd (And.intro hx (And.intro hcd (And.intro hch (And.intro hD2 (And.intro hs2 (And.intro hin2 (And.intro hout2 (And.intro hb2 (And.intro hsg hz))))))))))); clear hs hsd hb hx hcd hch hD2 hs2 hin2 hout2 hb2 hsg hbd hDd hz H htl
  go_still_tail 14, (by kernel_rfl)
  change wpList _ _ _ _ _ wd.drew
  go_wp2
  obtain ⟨hs, hsd, hx, hcd, hch, hD2, hs2, hin2, hout2, hb2, hsg, hz⟩ := HX.out
  have hUB : h.U ≠ h.BR := Ne.symm ho.n34
  have hbq := hb2.set 2 (.int .i64 (z : Int))
  have hsg2 : Seg w2 h.U r rem := (hsg.chg ((Chg.refl [D] wd).drew) (by simpa using hDU)).chg hch (by simpa using hDU)
  have hcellU : (w2.setCell ⟨h.BR, 2, none⟩ (.int .i64 (z : Int))).cell? ⟨h.U, z - 1, none⟩ = some (bv (rem.getD (n - 1) 0)) := by
    rw [World.cell?_of_block (w := w2) (Below.heap_setCell _ _ _ _ hUB), show z - 1 = r + (n - 1) from by omega]; exact hsg2.cell (n - 1) (by omega)
  have hDq := hD2.set_ne (p := ⟨h.BR, 2, none⟩) (by exact Ne.symm hDBR) (.int .i64 (z : Int))
  have hcq : Chg [h.BR, D] w (w2.setCell ⟨h.BR, 2, none⟩ (.int .i64 (z : Int))) := (((hcd.none).drew).trans (hch.mono (by simp))).setCell (.inl (by simp)) _
  clear d0 d1 d2 d3 d4 d5 d6 e2 e3 e4 e5 e6
  generalize w2.setCell ⟨h.BR, 2, none⟩ (.int .i64 (z : Int)) = wq at *
  have hbq : Blk wq h.BR (brc h z x .nilIface lb lr) 98 := hbq
  obtain ⟨d0, d1, d2, d3, d4, d5, d6, e2, e3, e4, e5, e6⟩ := br_cells hbq
  generalize rem.getD (n - 1) 0 = lc at *
  have hlc := lc.toNat_lt
  have hlc9 : lc.toNat < 256 := hlc
  obtain ⟨y, hy⟩ : ∃ y, y = z - 1 := ⟨_, rfl⟩
  rw [← hy] at hcellU
  have hwy : IntKind.i64.wrap ((z : Int) - 1) = (y : Int) := by rw [IntWalk.i64_in _ (by omega)]; omega
  have hy4 : y < 4096 := by omega
  have hy5 : (y : Int) < 4096 := by omega
  have HY := Lib.hid (And.intro hbq (And.intro hDq (And.intro hcq (And.intro hy (And.intro hs (And.intro hx (And.intro hs2 (And.intro hin2 (And.intro hout2 hz))))))))); clear hs hsd hx hcd hch hD2 hs2 hin2 hout2 hb2 hsg hz hsg2 hbq hDq hcq hy
  go_still_tail 15, (by kernel_rfl)
  change wpList _ _ _ _ _ wq.drew
  go_wp2
  go_ret2
  obtain ⟨hbq, hDq, hcq, hy, hs, hx, hs2, hin2, hout2, hz⟩ := HY.out
  have hDa : D ≠ h.RD ∧ D ≠ h.ST ∧ D ≠ h.BR ∧ D ≠ h.U := by
    unfold Hs.all at hDn; simp at hDn; exact hDn
  have hbf := (hbq.set 5 (.int .i64 (lc.toNat : Int))).set 6 (.int .i64 (-1))
  have hcf : Chg [h.BR, D] w ((wq.setCell ⟨h.BR, 5, none⟩ (.int .i64 (lc.toNat : Int))).setCell ⟨h.BR, 6, none⟩ (.int .i64 (-1))).drew :=
    ((hcq.setCell (p := ⟨h.BR, 5, none⟩) (.inl (by simp)) _).setCell (p := ⟨h.BR, 6, none⟩) (.inl (by simp)) _).drew
  have hDf := (hDq.set_ne (p := ⟨h.BR, 5, none⟩) (by exact Ne.symm hDBR) (.int .i64 (lc.toNat : Int))).set_ne (p := ⟨h.BR, 6, none⟩) (by exact Ne.symm hDBR) (.int .i64 (-1))
  refine ⟨rfl, hcf, ⟨cs2, hDf, hs2, fun i hi => ?_, hout2⟩, lc.toNat, -1, ?_⟩
  · rw [hin2 i hi]; simp [List.getD, hi]
  · subst hz
    refine hs.rep2 hcf ?_ (by rw [← hx]; exact hbf) (by simp; omega) (fun i hi => ?_) (by omega)
    · intro y hy
      simp at hy
      rcases hy with rfl | rfl
      · exact ⟨ho.b3, Ne.symm ho.n13, Ne.symm ho.n23, ho.n34⟩
      · exact ⟨hDB, hDa.1, hDa.2.1, hDa.2.2.2⟩
    · simp [List.getD]; rw [show n + i = i + (r + n) - r from by omega]
end Go.Proofs.YtekndndhgkdggaaGreatDoor

namespace Go.Proofs.YtekndndhgkdggaaGreatDoor

def tailB (line l : Bs) : Nat × Nat :=
  (if begB line l then 0 else match lastB (line.headD 0) l with
    | some i => if begB line (l.drop i) then i else l.length
    | none => l.length, 1)

/-- the body's length from here on (behind its beginning), and whether it is not whole (1) -/
def rB (line l : Bs) : Nat × Nat :=
  if h : 0 ≤ fndB line l ∧ 0 < line.length then
    if aftB true (l.drop ((fndB line l).toNat + line.length)) = 1 then ((fndB line l).toNat, 0)
    else ((fndB line l).toNat + line.length + (rB line (l.drop ((fndB line l).toNat + line.length))).1, (rB line (l.drop ((fndB line l).toNat + line.length))).2)
  else tailB line l
termination_by l.length
decreasing_by
  all_goals
    have h1 := (fndB_fit line l (fndB line l).toNat (by omega)).2
    simp only [List.length_drop]
    omega

def wB (front line : Bs) (first : Bool) (l : Bs) : Nat × Nat :=
  if first && begB l front then
    (if aftB true (l.drop front.length) = 1 then (0, 0) else (front.length + (rB line (l.drop front.length)).1, (rB line (l.drop front.length)).2))
  else if first && begB front l then (0, 1)
  else rB line l

theorem aft_fin {l : Bs} : (aftB false l = -1 → aftB true l = -1) ∧ (aftB false l = 1 → aftB true l = 1) ∧ (aftB true l = -1 ∨ aftB true l = 1) := by
  cases l with
  | nil => simp [aftB]
  | cons c r =>
    unfold aftB
    by_cases h1 : c = 32 ∨ c = 9 ∨ c = 13 ∨ c = 10
    · simp [h1]
    · by_cases h2 : c = 45
      · simp only [h1, if_false, h2, if_true]
        cases r with
        | nil => simp
        | cons d r => by_cases h3 : d = 45 <;> simp [h3]
      · simp [h1, h2]

theorem fndB_at (p : Bs) : ∀ (l : Bs) (k : Nat), fndB p l = (k : Int) → fndB p (l.drop k) = 0
  | [], k, h => by
    unfold fndB at h
    split at h
    · rename_i hp; subst hp; simp [fndB]
    · omega
  | d :: r, k, h => by
    cases k with
    | zero => exact h
    | succ k =>
      rw [fndB_cons] at h
      have hge := fndB_ge p r
      split at h
      · omega
      · split at h
        · omega
        · simp only [List.drop_succ_cons]
          exact fndB_at p r k (by omega)

theorem fndB_none (p : Bs) (hp : p ≠ []) : ∀ (l : Bs) (k : Nat), fndB p l = -1 → fndB p (l.drop k) = -1
  | [], k, _ => by simp [fndB, hp]
  | d :: r, 0, h => h
  | d :: r, k + 1, h => by
    rw [fndB_cons] at h
    have hge := fndB_ge p r
    simp only [List.drop_succ_cons]
    split at h
    · omega
    · split at h
      · exact fndB_none p hp r k (by assumption)
      · omega

theorem rB_none {line l : Bs} (h : fndB line l = -1) : rB line l = tailB line l := by
  rw [rB, dif_neg (by omega)]
theorem rB_some {line l : Bs} {k : Nat} (hl : 0 < line.length) (h : fndB line l = (k : Int)) : rB line l =
    if aftB true (l.drop (k + line.length)) = 1 then (k, 0) else (k + line.length + (rB line (l.drop (k + line.length))).1, (rB line (l.drop (k + line.length))).2) := by
  rw [rB, dif_pos (by omega), h]; rfl

/-- what one scan says of the rest -/
def StepB (W : Nat × Nat) (line l : Bs) (fin : Bool) (r : Nat × Nat) : Prop :=
  r.1 ≤ l.length ∧ r.2 ≤ 2 ∧ (r.2 = 1 → W = (r.1, 0)) ∧ (r.2 = 2 → fin = true → W = (r.1, 1)) ∧
  ((r.2 = 0 ∨ r.2 = 2 ∧ fin = false) → 0 < r.1 → W = (r.1 + (rB line (l.drop r.1)).1, (rB line (l.drop r.1)).2)) ∧ (r.2 = 0 → fin = true → 0 < r.1)

theorem lastB_le {c : UInt8} {l : Bs} {j : Nat} (h : lastB c l = some j) : j < l.length := lastB_lt2 h

theorem rest_step {line l : Bs} {fin : Bool} (hl : 0 < line.length) : StepB (rB line l) line l fin (restB line fin l) := by
  have hne : line ≠ [] := fun e => by rw [e] at hl; cases hl
  unfold restB
  by_cases hf : 0 ≤ fndB line l
  · obtain ⟨k, hk⟩ : ∃ k : Nat, fndB line l = (k : Int) := ⟨(fndB line l).toNat, by omega⟩
    obtain ⟨hb, hfit⟩ := fndB_fit line l k hk
    rw [if_pos hf, rB_some hl hk, hk]
    simp only [Int.toNat_natCast]
    have ha := aft_fin (l := l.drop (k + line.length))
    generalize hrest : l.drop (k + line.length) = rest at ha ⊢
    rcases aft_one (fin := fin) (l := rest) with h | h | h
    · have ht : aftB true rest = -1 := by cases fin with | true => exact h | false => exact ha.1 h
      simp only [h, if_true, ht, show ((-1 : Int) = 1) = False from by simp, if_false]
      refine ⟨hfit, by simp, by simp, by simp, ?_, fun _ _ => by simp only; omega⟩
      intro _ _
      rw [hrest]
    · have hff : fin = false := by
        cases fin with
        | false => rfl
        | true => rcases ha.2.2 with h2 | h2 <;> rw [h2] at h <;> simp at h
      subst hff
      simp only [h, show ((0 : Int) = -1) = False from by simp, if_false, if_true]
      refine ⟨by simp only; omega, by simp, by simp, by simp, ?_, by simp⟩
      intro _ _
      have h0 := fndB_at line l k hk
      rw [rB_some hl (k := 0) h0]
      simp only [Nat.zero_add, List.drop_drop]
      rw [hrest]
      rcases ha.2.2 with h2 | h2 <;> rw [h2]
      · simp only [show ((-1 : Int) = 1) = False from by simp, if_false, Nat.add_assoc]
      · simp
    · have ht : aftB true rest = 1 := by cases fin with | true => exact h | false => exact ha.2.1 h
      simp only [h, if_true, ht, show ((1 : Int) = -1) = False from by simp, show ((1 : Int) = 0) = False from by simp, if_false]
      exact ⟨by simp only; omega, by simp, by simp, by simp, by simp, by simp⟩
  · have hn : fndB line l = -1 := by have := fndB_ge line l; omega
    rw [if_neg hf, rB_none hn]
    unfold tailB
    by_cases hb : begB line l = true
    · rw [if_pos hb]
      simp only [hb, if_true]
      exact ⟨by simp, by simp, by simp, by simp, by simp, by simp⟩
    · rw [if_neg hb]
      have hlne : l ≠ [] := fun e => hb (by rw [e]; rfl)
      have hlp : 0 < l.length := List.length_pos_iff.2 hlne
      simp only [hb, Bool.false_eq_true, if_false]
      have hnil : rB line (l.drop l.length) = (0, 1) := by
        rw [rB_none (fndB_none line hne l _ hn), List.drop_length]
        unfold tailB
        rfl
      have hall : StepB (l.length, 1) line l fin (l.length, 2) := by
        refine ⟨Nat.le_refl _, by simp, by simp, by simp, ?_, by simp⟩
        intro _ _
        simp only
        rw [hnil]
        rfl
      cases hj : lastB (line.headD 0) l with
      | none => simp only [hj]; exact hall
      | some i =>
        have hi := lastB_le hj
        simp only [hj]
        by_cases hbi : begB line (l.drop i) = true
        · simp only [hbi, if_true]
          have h0 : 0 < i := Nat.pos_of_ne_zero (fun e => hb (by rw [e] at hbi; simpa using hbi))
          refine ⟨by simp only; omega, by simp, by simp, by simp, ?_, fun _ _ => h0⟩
          intro _ _
          simp only
          rw [rB_none (fndB_none line hne l _ hn)]
          unfold tailB
          simp [hbi]
        · simp only [hbi, Bool.false_eq_true, if_false]; exact hall

theorem scan_step {front line l : Bs} {first fin : Bool} (hl : 0 < line.length) (hfr : 0 < front.length) : StepB (wB front line first l) line l fin (scanB front line first fin l) := by
  unfold scanB wB
  by_cases h1 : (first && begB l front) = true
  · rw [if_pos h1, if_pos h1]
    have hfit : front.length ≤ l.length := begB_fit (by simp at h1; exact h1.2)
    have ha := aft_fin (l := l.drop front.length)
    generalize hrest : l.drop front.length = rest at ha ⊢
    rcases aft_one (fin := fin) (l := rest) with h | h | h
    · have ht : aftB true rest = -1 := by cases fin with | true => exact h | false => exact ha.1 h
      simp only [h, if_true, ht, show ((-1 : Int) = 1) = False from by simp, if_false]
      refine ⟨hfit, by simp, by simp, by simp, ?_, fun _ _ => hfr⟩
      intro _ _
      simp only [hrest]
    · have hff : fin = false := by
        cases fin with
        | false => rfl
        | true => rcases ha.2.2 with h2 | h2 <;> rw [h2] at h <;> simp at h
      subst hff
      simp only [h, show ((0 : Int) = -1) = False from by simp, if_false, if_true]
      exact ⟨by simp, by simp, by simp, by simp, by simp, by simp⟩
    · have ht : aftB true rest = 1 := by cases fin with | true => exact h | false => exact ha.2.1 h
      simp only [h, if_true, ht, show ((1 : Int) = -1) = False from by simp, show ((1 : Int) = 0) = False from by simp, if_false]
      exact ⟨by simp, by simp, by simp, by simp, by simp, by simp⟩
  · rw [if_neg h1, if_neg h1]
    by_cases h2 : (first && begB front l) = true
    · rw [if_pos h2, if_pos h2]
      exact ⟨by simp, by simp, by simp, by simp, by simp, by simp⟩
    · rw [if_neg h2, if_neg h2]
      exact rest_step hl

theorem ends_aft (b front : Bs) : (endsB b front = true ↔ aftB true (b.drop front.length) = 1) := by
  unfold endsB
  cases hd : b.drop front.length with
  | nil => simp [aftB]
  | cons c r =>
    unfold aftB
    by_cases h1 : c = 32 ∨ c = 9 ∨ c = 13 ∨ c = 10
    · rcases h1 with rfl | rfl | rfl | rfl <;> simp
    · have h2 : ¬ (c = 32) ∧ ¬ (c = 9) ∧ ¬ (c = 13) ∧ ¬ (c = 10) := by simpa using h1
      by_cases h3 : c = 45
      · subst h3
        cases r with
        | nil => simp
        | cons d r => by_cases h4 : d = 45 <;> simp [h4]
      · simp [h2.1, h2.2.1, h2.2.2.1, h2.2.2.2, h3]

theorem srch_fnd {b line : Bs} (hl : 0 < line.length) : ∀ (m : Nat) (a i : Nat), b.length - i = m → i ≤ b.length →
    srchB b line a i = if fndB line (b.drop i) = -1 then (false, a) else
      (if endsB (b.drop (i + (fndB line (b.drop i)).toNat)) line = true then (true, i + (fndB line (b.drop i)).toNat)
       else srchB b line (i + (fndB line (b.drop i)).toNat + line.length) (i + (fndB line (b.drop i)).toNat + line.length)) := by
  have hne : line ≠ [] := fun e => by rw [e] at hl; cases hl
  intro m
  induction m with
  | zero =>
    intro a i hm hi
    rw [srchB, dif_neg (by omega), List.drop_eq_nil_of_le (by omega)]
    simp [fndB, hne]
  | succ m ih =>
    intro a i hm hi
    have hlt : i < b.length := by omega
    have hd := drop_at hlt
    rw [srchB, dif_pos hlt]
    cases hb : begB (b.drop i) line with
    | true =>
      have h0 : fndB line (b.drop i) = 0 := by rw [hd] at hb ⊢; rw [fndB_cons, hb]; rfl
      simp only [h0, if_true, show ((0 : Int) = -1) = False from by simp, if_false, Int.toNat_zero, Nat.add_zero]
      rw [show i + (line.length - 1) + 1 = i + line.length from by omega]
    | false =>
      simp only [Bool.false_eq_true, if_false]
      rw [ih a (i + 1) (by omega) (by omega)]
      have hs : fndB line (b.drop i) = if fndB line (b.drop (i + 1)) = -1 then -1 else fndB line (b.drop (i + 1)) + 1 := by
        rw [hd] at hb ⊢; rw [fndB_cons, hb]; rfl
      have hge := fndB_ge line (b.drop (i + 1))
      rw [hs]
      by_cases hn : fndB line (b.drop (i + 1)) = -1
      · simp [hn]
      · simp only [hn, if_false, show (fndB line (b.drop (i + 1)) + 1 = -1) = False from by simp; omega]
        rw [show i + (fndB line (b.drop (i + 1)) + 1).toNat = i + 1 + (fndB line (b.drop (i + 1))).toNat from by omega]

theorem srch_r {b line : Bs} (hl : 0 < line.length) : ∀ (m i : Nat), b.length - i = m → i ≤ b.length →
    (match srchB b line i i with | (true, j) => (j, 0) | (false, a) => (a + (tailB line (b.drop a)).1, 1)) = (i + (rB line (b.drop i)).1, (rB line (b.drop i)).2) := by
  intro m
  induction m using Nat.strongRecOn with
  | _ m ih =>
    intro i hm hi
    rw [srch_fnd hl _ i i rfl hi]
    have hge := fndB_ge line (b.drop i)
    by_cases hn : fndB line (b.drop i) = -1
    · rw [if_pos hn, rB_none hn]; rfl
    · obtain ⟨k, hk⟩ : ∃ k : Nat, fndB line (b.drop i) = (k : Int) := ⟨(fndB line (b.drop i)).toNat, by omega⟩
      have hfit := (fndB_fit line (b.drop i) k hk).2
      simp only [List.length_drop] at hfit
      rw [if_neg hn, rB_some hl hk, hk]
      simp only [Int.toNat_natCast]
      have he := ends_aft (b.drop (i + k)) line
      rw [List.drop_drop] at he
      rw [List.drop_drop]
      by_cases h : aftB true (b.drop (i + (k + line.length))) = 1
      · rw [if_pos h, if_pos (he.2 (by rw [← h, Nat.add_assoc]))]
      · rw [if_neg h, if_neg (fun h2 => h (by rw [← he.1 h2, Nat.add_assoc]))]
        rw [ih (b.length - (i + k + line.length)) (by omega) (i + k + line.length) rfl (by omega)]
        simp only [Nat.add_assoc]

theorem srch_ge {b line : Bs} : ∀ (m a i : Nat), b.length - i = m → a ≤ i → a ≤ (srchB b line a i).2 := by
  intro m
  induction m using Nat.strongRecOn with
  | _ m ih =>
    intro a i hm hi
    unfold srchB
    split
    · split
      · split
        · exact hi
        · exact Nat.le_trans (by omega) (ih (b.length - (i + (line.length - 1) + 1)) (by omega) _ _ rfl (Nat.le_refl _))
      · exact ih (b.length - (i + 1)) (by omega) a (i + 1) rfl (by omega)
    · exact Nat.le_refl _

theorem body_tail {front line left : Bs} {a : Nat} (h : (a = 0 && begB front left) = false) :
    (if ((a = 0 && begB front left) || begB line left) = true then 0 else match lastB (line.headD 0) left with | some i => if begB line (left.drop i) = true then i else left.length | none => left.length) = (tailB line left).1 := by
  unfold tailB
  rw [h, Bool.false_or]

theorem wB_body (bd nl rem : Bs) (hnl : 0 < nl.length) : wB ([45, 45] ++ bd) (nl ++ ([45, 45] ++ bd)) true rem = bodyB bd nl rem := by
  unfold bodyB wB
  simp only [Bool.true_and, List.append_assoc]
  generalize hfr : ([45, 45] ++ bd : Bs) = front
  have hf2 : 0 < front.length := by rw [← hfr]; simp
  have hl : 0 < (nl ++ front).length := by simp; omega
  have hlf : front.length < (nl ++ front).length := by simp; omega
  generalize nl ++ front = line at hl hlf ⊢
  have he := ends_aft rem front
  by_cases h1 : begB rem front = true
  · have hfit := begB_fit h1
    simp only [h1, if_true, Bool.true_and]
    by_cases h2 : aftB true (rem.drop front.length) = 1
    · rw [if_pos h2, if_pos (he.2 h2)]
    · rw [if_neg h2, if_neg (fun h => h2 (he.1 h))]
      rw [← srch_r hl _ front.length rfl hfit]
      have hge := srch_ge (b := rem) (line := line) _ front.length front.length rfl (Nat.le_refl _)
      rcases hs : srchB rem line front.length front.length with ⟨b, a⟩
      rw [hs] at hge
      cases b with
      | true => rfl
      | false =>
        have ha : (decide (a = 0) && begB front (rem.drop a)) = false := by simp only at hge; simp; omega
        exact congrArg (fun x => (a + x, 1)) (body_tail ha).symm
  · have h1' : begB rem front = false := by simpa using h1
    simp only [h1', Bool.false_eq_true, if_false, Bool.false_and]
    by_cases h2 : begB front rem = true
    · rw [if_pos h2, srch_fnd hl _ 0 0 rfl (Nat.zero_le _), List.drop_zero, fndB_short _ _ (by have := begB_fit h2; omega)]
      simp [h2]
    · have h2' : begB front rem = false := by simpa using h2
      have hr := srch_r (b := rem) hl _ 0 rfl (Nat.zero_le _)
      rw [List.drop_zero] at hr
      simp only [Nat.zero_add] at hr
      rw [if_neg h2, show rB line rem = ((rB line rem).1, (rB line rem).2) from rfl, ← hr]
      rcases hs : srchB rem line 0 0 with ⟨b, a⟩
      cases b with
      | true => rfl
      | false =>
        have ha : (decide (a = 0) && begB front (rem.drop a)) = false := by
          by_cases h0 : a = 0
          · subst h0; simpa using h2'
          · simp [h0]
        exact congrArg (fun x => (a + x, 1)) (body_tail ha).symm
end Go.Proofs.YtekndndhgkdggaaGreatDoor

namespace Go.Proofs.YtekndndhgkdggaaGreatDoor
open Go.RowKit

def ptc (PP MR M n tot : Nat) (ev rv : Value) : Array Value :=
  #[.map (some M), .pointer (some ⟨MR, 0, none⟩), .string ByteArray.empty, .map none, .iface 125 (.agg #[.pointer (some ⟨PP, 0, none⟩)]), .int .i64 (n : Int), .int .i64 (tot : Int), ev, rv]

theorem pt_cells {w : World} {PP MR M n tot : Nat} {ev rv : Value} (h : Blk w PP (ptc PP MR M n tot ev rv) 93) : w.cell? ⟨PP, 0, none⟩ = some (.map (some M)) ∧ w.cell? ⟨PP, 1, none⟩ = some (.pointer (some ⟨MR, 0, none⟩)) ∧ w.cell? ⟨PP, 4, none⟩ = some (.iface 125 (.agg #[.pointer (some ⟨PP, 0, none⟩)])) ∧
    w.cell? ⟨PP, 5, none⟩ = some (.int .i64 (n : Int)) ∧ w.cell? ⟨PP, 6, none⟩ = some (.int .i64 (tot : Int)) ∧ w.cell? ⟨PP, 7, none⟩ = some ev ∧ w.cell? ⟨PP, 8, none⟩ = some rv ∧
    w.frozen? ⟨PP, 5, none⟩ = false ∧ w.frozen? ⟨PP, 6, none⟩ = false ∧ w.frozen? ⟨PP, 7, none⟩ = false ∧ w.frozen? ⟨PP, 8, none⟩ = false :=
  ⟨h.cell 0, h.cell 1, h.cell 4, h.cell 5, h.cell 6, h.cell 7, h.cell 8, h.free 5, h.free 6, h.free 7, h.free 8⟩

/-- what is still to come of a body: its length, how it ends -/
def PW (g : Nat → Addr) (front line : Bs) (tot n : Nat) (ev : Value) (rem : Bs) (res : Nat × Nat) : Prop :=
  (ev = .nilIface ∧ n = 0 ∧ wB front line (tot == 0) rem = res) ∨ (ev = .nilIface ∧ 0 < n ∧ n ≤ rem.length ∧ (n + (rB line (rem.drop n)).1, (rB line (rem.drop n)).2) = res) ∨ (ev = erv (g res.2) ∧ res.1 = n ∧ n ≤ rem.length ∧ res.2 ≤ 1)

/-- the search has said something -/
def PD (g : Nat → Addr) (line : Bs) (n : Nat) (ev : Value) (rem : Bs) (res : Nat × Nat) : Prop :=
  (ev = .nilIface ∧ 0 < n ∧ n ≤ rem.length ∧ (n + (rB line (rem.drop n)).1, (rB line (rem.drop n)).2) = res) ∨ (ev = erv (g res.2) ∧ res.1 = n ∧ n ≤ rem.length ∧ res.2 ≤ 1)

theorem wB_false (front line l : Bs) : wB front line false l = rB line l := by
  unfold wB; simp

/-- one scan -/
theorem scan_next {g : Nat → Addr} {front line l : Bs} {tot : Nat} {fin : Bool} {res : Nat × Nat} (hl : 0 < line.length) (hf : 0 < front.length) (hw : wB front line (tot == 0) l = res) (r : Nat × Nat) (hr : r = scanB front line (tot == 0) fin l) :
    (r.1 = 0 ∧ scanE g fin (g 1) r.2 = .nilIface ∧ fin = false) ∨ PD g line r.1 (scanE g fin (g 1) r.2) l res := by
  have h := scan_step (front := front) (line := line) (l := l) (first := tot == 0) (fin := fin) hl hf
  rw [hw, ← hr] at h
  obtain ⟨h1, h2, h3, h4, h5, h6⟩ := h
  obtain ⟨n, c⟩ := r
  simp only at *
  have hc : c = 0 ∨ c = 1 ∨ c = 2 := by omega
  rcases hc with rfl | rfl | rfl
  · by_cases hn : n = 0
    · left
      refine ⟨hn, rfl, ?_⟩
      cases fin with
      | false => rfl
      | true => have := h6 rfl rfl; omega
    · right; left
      exact ⟨rfl, by omega, h1, (h5 (.inl rfl) (by omega)).symm⟩
  · right; right
    have := h3 rfl
    rw [this]
    exact ⟨rfl, rfl, h1, by simp⟩
  · cases fin with
    | true =>
      right; right
      have := h4 rfl rfl
      rw [this]
      exact ⟨rfl, rfl, h1, by simp⟩
    | false =>
      by_cases hn : n = 0
      · left; exact ⟨hn, rfl, rfl⟩
      · right; left
        exact ⟨rfl, by omega, h1, (h5 (.inr ⟨rfl, rfl⟩) (by omega)).symm⟩

/-- q bytes of what is known have been taken -/
theorem PD.took {g : Nat → Addr} {front line l : Bs} {tot n q : Nat} {ev : Value} {res : Nat × Nat} (h : PD g line n ev l res) (hq : q ≤ n) (hq0 : 0 < q) : q ≤ res.1 ∧ PW g front line (tot + q) (n - q) ev (l.drop q) (res.1 - q, res.2) := by
  rcases h with ⟨rfl, hn, hnl, rfl⟩ | ⟨rfl, rfl, hnl, hr⟩
  · refine ⟨by simp only; omega, ?_⟩
    by_cases he : q = n
    · subst he
      left
      refine ⟨rfl, by omega, ?_⟩
      have : (tot + q == 0) = false := by rw [beq_eq_false_iff_ne]; omega
      rw [this, wB_false]
      simp only [Nat.add_sub_cancel_left]
    · right; left
      refine ⟨rfl, by omega, by simp; omega, ?_⟩
      rw [List.drop_drop, show q + (n - q) = n from by omega]
      simp only [Prod.mk.injEq, and_true]
      omega
  · refine ⟨hq, .inr (.inr ⟨rfl, rfl, by simp; omega, hr⟩)⟩

theorem PD.ended {g : Nat → Addr} {line l : Bs} {n : Nat} {ev : Value} {res : Nat × Nat} (h : PD g line n ev l res) : n ≤ l.length ∧ (n = 0 → ev = erv (g res.2) ∧ res.1 = 0) ∧ n ≤ res.1 := by
  rcases h with ⟨rfl, hn, hnl, rfl⟩ | ⟨rfl, rfl, hnl, hr⟩
  · exact ⟨hnl, fun e => by omega, by simp⟩
  · exact ⟨hnl, fun e => ⟨rfl, e⟩, Nat.le_refl _⟩

structure PtS (B : Nat) (g : Nat → Addr) (h : Hs) (S : List Nat) (w : World) (PP MR M : Nat) (bd nl : Bs) (cur : Value) (parts : Nat) (rem : Bs) (res : Nat × Nat) : Prop where
  ex : ∃ n tot fin ev, Blk w PP (ptc PP MR M n tot ev (errV fin (g 1))) 93 ∧ tot + rem.length ≤ 3000 ∧ PW g ([45, 45] ++ bd) (nl ++ [45, 45] ++ bd) tot n ev rem res
  mr : MRS S w MR h bd nl cur parts
  ins : ∃ r lb lr, InS B g h w r rem .nilIface lb lr
  far : PP ∉ MR :: h.all ∧ MR ∉ h.all ∧ B ≤ PP ∧ B ≤ MR ∧ MR ∉ S ∧ ∀ x ∈ PP :: h.all, x ∈ S
end Go.Proofs.YtekndndhgkdggaaGreatDoor
