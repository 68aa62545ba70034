/- The reference's body. -/
import Derived.Test.YtekndndhgkdggaaGreatDoorR2
import Derived.Deep.DeepCutAuto
import Derived.Deep.CutBlock
namespace Go.Proofs.YtekndndhgkdggaaGreatDoor
open Go.RowKit

/-- []byte(s) of a string -/
theorem conv9_22 (w : World) (l : Bs) : ∃ b c w', (convert 9 22 (.string (bstr l))).run Tryz.prog w = .ok (.slice (some ⟨b, 0, none⟩) l.length c) w' ∧ BS [] w' (.slice (some ⟨b, 0, none⟩) l.length c) l ∧ Chg [] w w' ∧ b = w.heap.size ∧ w'.heap.size = w.heap.size + 1 := by
  have h := run_bytes_of_string (P := Tryz.prog) w 9 22 5 (bstr l) (by kernel_rfl) (by kernel_rfl) (by kernel_rfl)
  rw [bstr_size] at h
  refine ⟨_, _, _, h, ?_, (Chg.refl _ w).drew.alloc _, rfl, by simp⟩
  have hg : l.length ≤ grownCap w l.length 0 5 := grownCap_ge w l.length 0 5
  refine BS.of_seg ⟨by simp, ?_⟩ rfl hg (by simp)
  intro i hi
  have := World.cell?_alloc_mark w.drew (bytesRow (bstr l) (grownCap w l.length 0 5)) 5 ((bytesRow (bstr l) (grownCap w l.length 0 5)).size, (bytesRow (bstr l) (grownCap w l.length 0 5)).size + 1) (0 + i)
  rw [show w.drew.heap.size = w.heap.size from rfl] at this
  rw [this, Nat.zero_add, bytesRow_at _ _ _ (by simpa [bstr] using hi)]
  simp [bstr, List.getD, List.getElem?_eq_getElem hi]

theorem srch_le (b line : Bs) (a i : Nat) (ha : a ≤ i) (hi : i ≤ b.length) (hln : 0 < line.length) : (srchB b line a i).2 ≤ b.length := by
  induction hm : b.length - i using Nat.strongRecOn generalizing a i with
  | _ n ih =>
    unfold srchB
    split
    · rename_i hlt
      split
      · rename_i hb
        split
        · exact hi
        · have hle : line.length ≤ (b.drop i).length := by
            rcases Nat.lt_or_ge (b.drop i).length line.length with h | h
            · rw [begB_short _ _ h] at hb; cases hb
            · exact h
          simp at hle
          exact ih _ (by omega) _ _ (Nat.le_refl _) (by omega) rfl
      · exact ih _ (by omega) _ _ (by omega) (by omega) rfl
    · show a ≤ _; omega

/-- how much of what is left is body where no boundary comes -/
def leftC (front line left : Bs) (z : Bool) : Nat :=
  if (z && begB front left) || begB line left then 0
  else match lastB (line.headD 0) left with
    | some i => if begB line (left.drop i) then i else left.length
    | none => left.length
def bodyC (front line rem : Bs) : Nat × Nat :=
  if begB rem front && endsB rem front then (0, 0)
  else
    match srchB rem line (if begB rem front then front.length else 0) (if begB rem front then front.length else 0) with
    | (true, i) => (i, 0)
    | (false, a) => (a + leftC front line (rem.drop a) (a == 0), 1)
theorem bodyB_eq (bd nl rem : Bs) : bodyB bd nl rem = bodyC (45 :: 45 :: bd) (nl ++ 45 :: 45 :: bd) rem := by
  unfold bodyB bodyC leftC
  simp only [List.cons_append, List.nil_append, List.append_assoc]
  rfl

theorem lastB_none {c : UInt8} {l : Bs} (h : ∀ j, j < l.length → l.getD j 0 ≠ c) : lastB c l = none := by
  induction l with
  | nil => rfl
  | cons d r ih =>
    have := ih (fun j hj => by have := h (j + 1) (by simp; omega); simpa using this)
    have h0 : d ≠ c := by have := h 0 (by simp); simpa using this
    simp [lastB, this, h0]
theorem lastB_some {c : UInt8} {l : Bs} {k : Nat} (hk : k < l.length) (he : l.getD k 0 = c) (h : ∀ j, k < j → j < l.length → l.getD j 0 ≠ c) : lastB c l = some k := by
  induction l generalizing k with
  | nil => cases hk
  | cons d r ih =>
    cases k with
    | zero =>
      have : lastB c r = none := lastB_none (fun j hj => by have := h (j + 1) (by omega) (by simp; omega); simpa using this)
      have hd : d = c := by simpa using he
      simp [lastB, this, hd]
    | succ k =>
      have := ih (k := k) (by simpa using hk) (by simpa using he) (fun j hj hj2 => by have := h (j + 1) (by omega) (by simp; omega); simpa using this)
      simp [lastB, this]

theorem lastB_lt {c : UInt8} {l : Bs} {i : Nat} (h : lastB c l = some i) : i < l.length := by
  induction l generalizing i with
  | nil => cases h
  | cons d r ih =>
    unfold lastB at h
    split at h
    · rename_i j hj; cases h; have := ih hj; simp; omega
    · split at h
      · cases h; simp
      · cases h
theorem leftC_le (front line left : Bs) (z : Bool) : leftC front line left z ≤ left.length := by
  unfold leftC
  split
  · omega
  · split
    · rename_i i hi
      have := lastB_lt hi
      split <;> omega
    · omega

theorem index9 (l : Bs) (i : Nat) (h : i < l.length) (w : World) : (Instr.index 9 (.string (bstr l)) (.int .i64 (i : Int))).run Tryz.prog w = .ok (bv (l.getD i 0)) w := by
  have e : (bstr l)[i]? = some (l.getD i 0) := by
    show (if h : i < (bstr l).size then some ((bstr l)[i]) else none) = _
    rw [dif_pos (by rw [bstr_size]; exact h)]
    simp [bstr, List.getD, List.getElem?_eq_getElem h]
    rfl
  have hu : Tryz.prog.underlying 9 = some .string := by kernel_rfl
  simp [Instr.index, asIntOf, run_underlying hu, e]

theorem BS.seg {S : List Nat} {w : World} {b o n c : Nat} {l : Bs} (h : BS S w (.slice (some ⟨b, o, none⟩) n c) l) (hn : 0 < n) : Seg w b o l := by
  obtain ⟨b', o', e, _, hs⟩ := h.at_ hn
  cases e; exact hs

/-- none from k on is c -/
def NoAft (c : UInt8) (l : Bs) (k : Nat) : Prop := ∀ j, k ≤ j → j < l.length → l.getD j 0 ≠ c

def BodyPost (S : List Nat) (w : World) (RB : Nat) (rem bd nl : Bs) (parts : Nat) (res : Nat × Nat) (e : Ending) (w' : World) : Prop :=
  (∃ u, e = .returned (.tuple #[u, .int .i64 res.2]) ∧ BS (RB :: S) w' u (rem.take res.1)) ∧ RdS S w' RB (rem.drop res.1) bd nl parts ∧ Chg [RB] w w'

set_option maxRecDepth 100000 in
set_option maxHeartbeats 1000000 in
theorem body_any {S : List Nat} {w : World} {RB : Nat} {rem bd nl : Bs} {parts : Nat} (h : RdS S w RB rem bd nl parts) (hl : rem.length ≤ 10000) (hbd : bd.length ≤ 1000) (hnl : 0 < nl.length ∧ nl.length ≤ 2) :
    Calls Tryz.prog 13 #[.pointer (some ⟨RB, 0, none⟩)] w (BodyPost S w RB rem bd nl parts (bodyC (45 :: 45 :: bd) (nl ++ 45 :: 45 :: bd) rem)) := by
  have hh := Lib.hid h
  obtain ⟨hn, v, hb, hs⟩ := h
  obtain ⟨a, c, rfl, hlc, _⟩ := id hs
  have g0 : w.cell? ⟨RB, 0, none⟩ = some (.slice a rem.length c) := hb.cell 0
  have g1 : w.cell? ⟨RB, 1, none⟩ = some (.string (bstr bd)) := hb.cell 1
  have g2 : w.cell? ⟨RB, 2, none⟩ = some (.string (bstr nl)) := hb.cell 2
  have HB := Lib.hid hb
  have HS := Lib.hid hs
  clear hb hs
  have hlf : (45 :: 45 :: bd).length ≤ 1010 := by simp; omega
  have hll : (nl ++ 45 :: 45 :: bd).length ≤ 1010 ∧ 0 < (nl ++ 45 :: 45 :: bd).length := by simp; omega
  generalize hres : bodyC (45 :: 45 :: bd) (nl ++ 45 :: 45 :: bd) rem = res
  have HR := Lib.hid hres; clear hres
  go_enter Tryz.func13, Tryz.ntmps13
  go_wp2
  go_quiet (fail)
  have hch1 : Chg [RB] w (w.drewN nq) := (Chg.refl _ w).drewN _
  have HB1 : Hid (Blk (w.drewN nq) RB _ _) := HB.out
  have HS1 : Hid (BS (RB :: S) (w.drewN nq) (.slice a rem.length c) rem) := HS.out.drewN nq
  have G0 : (w.drewN nq).cell? ⟨RB, 0, none⟩ = some (.slice a rem.length c) := g0
  have F0 : (w.drewN nq).frozen? ⟨RB, 0, none⟩ = false := HB1.out.free 0
  have HC1 := Lib.hid hch1
  clear HB HS g0 g1 g2 hch1
  generalize 45 :: 45 :: bd = fr at *
  generalize nl ++ fr = ln at *
  generalize w.drewN nq = w1 at *
  cases hbg : begB rem fr with
  | true =>
    have hle : fr.length ≤ rem.length := by
      rcases Nat.lt_or_ge rem.length fr.length with h2 | h2
      · rw [begB_short _ _ h2] at hbg; cases hbg
      · exact h2
    have HBG := Lib.hid hbg; clear hbg
    cases hen : endsB rem fr with
    | true =>
      have HEN := Lib.hid hen; clear hen
      go_wp2_with fail
      refine (begins_any fr HS1.out (by omega) (by omega)).mono ?_
      rintro e w' ⟨rfl, rfl⟩
      rw [HBG.out]
      go_wp2_with fail
      refine (ends_any fr HS1.out (by omega) hle).mono ?_
      rintro e w' ⟨rfl, rfl⟩
      rw [HEN.out]
      go_wp2
      go_ret2
      have e : res = (0, 0) := by rw [← HR.out]; unfold bodyC; rw [HBG.out, HEN.out]; rfl
      rw [e]
      exact ⟨⟨_, rfl, BS.nil _ _⟩, ⟨hn, _, HB1.out, HS1.out⟩, HC1.out⟩
    | false =>
      have HEN := Lib.hid hen; clear hen
      have hR0 : res = match srchB rem ln fr.length fr.length with | (true, i) => (i, 0) | (false, a) => (a + leftC fr ln (rem.drop a) (a == 0), 1) := by
        rw [← HR.out]; unfold bodyC; rw [HBG.out, HEN.out]; rfl
      have HR0 := Lib.hid hR0; clear hR0 HR
      go_wp2_with fail
      refine (begins_any fr HS1.out (by omega) (by omega)).mono ?_
      rintro e w' ⟨rfl, rfl⟩
      rw [HBG.out]
      go_wp2_with fail
      refine (ends_any fr HS1.out (by omega) hle).mono ?_
      rintro e w' ⟨rfl, rfl⟩
      rw [HEN.out]
      go_wp2_with fail
      refine (begins_any fr HS1.out (by omega) (by omega)).mono ?_
      rintro e w' ⟨rfl, rfl⟩
      rw [HBG.out]
      go_wp2
      go_loop [6, 7] (fun A I => ∃ (at' i : Nat), A = .int .i64 at' ∧ I = .int .i64 i ∧ at' ≤ i ∧ i ≤ rem.length ∧ Hid (srchB rem ln at' i = srchB rem ln fr.length fr.length)) (fun _ I => rem.length - (intOf I).toNat)
      case atStart => exact ⟨fr.length, fr.length, rfl, rfl, Nat.le_refl _, by omega, rfl⟩
      case round =>
        obtain ⟨at', i, rfl, rfl, hai, hil, hsr⟩ := hrel
        by_cases hlt : i < rem.length
        · obtain ⟨b, o, rfl, _, _⟩ := HS1.out.at_ (by omega)
          have hsl : (Instr.slice 22 (.slice (some ⟨b, o, none⟩) rem.length c) (some (.int .i64 (i : Int))) none none).run Tryz.prog w1 = .ok (.slice (subA (some ⟨b, o, none⟩) c i) (rem.length - i) (c - i)) w1 :=
            slice22_l (some ⟨b, o, none⟩) rem.length c .i64 (i : Int) (by omega) (by omega) w1
          have hd := HS1.out.drop i (by omega)
          have hdl : (rem.drop i).length ≤ 10000 := by simp; omega
          have hdl2 : (rem.drop i).length = rem.length - i := by simp
          cases hbi : begB (rem.drop i) ln with
          | false =>
            have HBI := Lib.hid hbi; clear hbi hdl2
            have hd := Lib.hid hd
            go_wp2_with fail
            refine (begins_any ln hd.out (by omega) (by omega)).mono ?_
            rintro e w' ⟨rfl, rfl⟩
            rw [HBI.out]
            go_wp2
            go_round
            case rel =>
              refine ⟨at', i + 1, rfl, by go_num, by omega, by omega, ?_⟩
              have e := hsr.out
              rw [srchB, dif_pos hlt, HBI.out] at e
              exact e
            case measure => simp [intOf]; omega
          | true =>
            have hle : ln.length ≤ (rem.drop i).length := by
              rcases Nat.lt_or_ge (rem.drop i).length ln.length with h2 | h2
              · rw [begB_short _ _ h2] at hbi; cases hbi
              · exact h2
            have HBI := Lib.hid hbi; clear hbi
            have hle2 : ln.length ≤ rem.length - i := by omega
            have hd := Lib.hid hd
            have HDL2 := Lib.hid hdl2; clear hdl2
            cases hei : endsB (rem.drop i) ln with
            | false =>
              have HEI := Lib.hid hei; clear hei
              go_wp2_with fail
              refine (begins_any ln hd.out (by omega) (by omega)).mono ?_
              rintro e w' ⟨rfl, rfl⟩
              rw [HBI.out]
              go_wp2_with fail
              refine (ends_any ln hd.out (by omega) hle).mono ?_
              rintro e w' ⟨rfl, rfl⟩
              rw [HEI.out]
              go_wp2
              go_round
              case rel =>
                refine ⟨i + (ln.length - 1) + 1, i + (ln.length - 1) + 1, ?_, ?_, Nat.le_refl _, by omega, ?_⟩
                · rw [show ((i + (ln.length - 1) + 1 : Nat) : Int) = (i : Int) + ((ln.length : Int) - 1) + 1 from by omega]
                · rw [show ((i + (ln.length - 1) + 1 : Nat) : Int) = (i : Int) + ((ln.length : Int) - 1) + 1 from by omega]
                · have e := hsr.out
                  rw [srchB, dif_pos hlt, HBI.out, HEI.out] at e
                  exact e
              case measure => simp [intOf]; omega
            | true =>
              have HEI := Lib.hid hei; clear hei
              have hsh : (Instr.slice 22 (.slice (some ⟨b, o, none⟩) rem.length c) none (some (.int .i64 (i : Int))) none).run Tryz.prog w1 = .ok (.slice (some ⟨b, o, none⟩) i c) w1 :=
                slice22_h (some ⟨b, o, none⟩) rem.length c .i64 (i : Int) (by omega) (by omega) w1
              go_wp2_with fail
              refine (begins_any ln hd.out (by omega) (by omega)).mono ?_
              rintro e w' ⟨rfl, rfl⟩
              rw [HBI.out]
              go_wp2_with fail
              refine (ends_any ln hd.out (by omega) hle).mono ?_
              rintro e w' ⟨rfl, rfl⟩
              rw [HEI.out]
              go_wp2
              go_ret2
              have e : res = (i, 0) := by
                rw [HR0.out, ← hsr.out, srchB, dif_pos hlt, HBI.out, HEI.out]; rfl
              rw [e]
              have hc2 : ∀ v', Chg [RB] w1 (w1.setCell ⟨RB, 0, none⟩ v') := fun v' => (Chg.refl _ _).setCell (by simp) _
              exact ⟨⟨_, rfl, (HS1.out.take i (by omega)).chg ((hc2 _).mono (by simp))⟩, ⟨hn, _, HB1.out.set 0 _, hd.out.chg ((hc2 _).mono (by simp))⟩, HC1.out.trans (hc2 _)⟩
        · have hie : i = rem.length := by omega
          have hR1 : res = (at' + leftC fr ln (rem.drop at') (at' == 0), 1) := by
            rw [HR0.out, ← hsr.out, srchB, dif_neg hlt]
          have HR1 := Lib.hid hR1; clear hR1 hsr hlt
          subst hie
          have hsl : (Instr.slice 22 (.slice a rem.length c) (some (.int .i64 (at' : Int))) none none).run Tryz.prog w1 = .ok (.slice (subA a c at') (rem.length - at') (c - at')) w1 :=
            slice22_l a rem.length c .i64 (at' : Int) (by omega) (by omega) w1
          have hd := Lib.hid (HS1.out.drop at' hai)
          have HNN := Lib.hid (show leftC fr ln (rem.drop at') (at' == 0) = leftC fr ln (rem.drop at') (at' == 0) from rfl)
          have hnn : leftC fr ln (rem.drop at') (at' == 0) ≤ rem.length - at' := by have := leftC_le fr ln (rem.drop at') (at' == 0); simp at this; omega
          generalize hnq : leftC fr ln (rem.drop at') (at' == 0) = nn at hnn HR1
          clear HNN
          have HN := Lib.hid hnq; clear hnq
          go_upto_block 2 with (fail)
          go_cut [10] (fun n wz => n = .int .i64 (nn : Int) ∧ Chg [] w1 wz)
          case rest =>
            obtain ⟨rfl, hcz⟩ := hcut
            have hlt := HB1.out.lt
            have hbz := HB1.out.chg hcz (by simp)
            have hsz := HS1.out.chg (hcz.mono (by simp))
            have z0 : wc.cell? ⟨RB, 0, none⟩ = some (.slice a rem.length c) := hbz.cell 0
            have zf : wc.frozen? ⟨RB, 0, none⟩ = false := hbz.free 0
            have s1 : (Instr.slice 22 (.slice a rem.length c) none (some (.int .i64 ((at' : Int) + (nn : Int)))) none).run Tryz.prog wc = .ok (.slice a (at' + nn) c) wc :=
              slice22_h a rem.length c .i64 ((at' : Int) + (nn : Int)) (by omega) (by omega) wc
            have s2 : (Instr.slice 22 (.slice a rem.length c) (some (.int .i64 ((at' : Int) + (nn : Int)))) none none).run Tryz.prog wc = .ok (.slice (subA a c (at' + nn)) (rem.length - (at' + nn)) (c - (at' + nn))) wc :=
              slice22_l a rem.length c .i64 ((at' : Int) + (nn : Int)) (by omega) (by omega) wc
            have HZ := Lib.hid (And.intro hcz (And.intro hbz hsz))
            clear hcz hbz hsz hd hsl G0 F0
            go_wp2
            go_ret2
            rw [HR1.out]
            have hc2 : ∀ v', Chg [RB] wc (wc.setCell ⟨RB, 0, none⟩ v') := fun v' => (Chg.refl _ _).setCell (by simp) _
            exact ⟨⟨_, rfl, (HZ.out.2.2.take (at' + nn) (by omega)).chg ((hc2 _).mono (by simp))⟩, ⟨hn, _, HZ.out.2.1.set 0 _, (HZ.out.2.2.drop (at' + nn) (by omega)).chg ((hc2 _).mono (by simp))⟩, (HC1.out.trans (HZ.out.1.mono (by simp))).trans (hc2 _)⟩
          case first =>
            have hdl : (rem.drop at').length = rem.length - at' := by simp
            generalize rem.drop at' = lf at *
            generalize subA a c at' = sa at *
            have hlf2 : lf.length ≤ 10000 := by omega
            have hcase : ∃ z : Bool, (at' == 0) = z ∧ (((at' : Nat) : Int) == 0) = z := ⟨at' == 0, rfl, by rw [Bool.eq_iff_iff, beq_iff_eq, beq_iff_eq]; omega⟩
            obtain ⟨z, hz1, hz2⟩ := hcase
            have HZ1 := Lib.hid hz1; clear hz1
            obtain ⟨b1, c1, w2, hcv1, hbs1, hch1, -, -⟩ := conv9_22 w1 fr
            have hcv1b := conv22_9 (hd.out.chg (hch1.mono (by simp)))
            have hd2 := Lib.hid (hd.out.chg (hch1.mono (by simp)))
            have hbs1 := Lib.hid hbs1
            have hch1 := Lib.hid hch1
            have step : True := trivial
            cases z with
            | true =>
              cases hbf : begB fr lf with
              | true =>
                have HBF := Lib.hid hbf; clear hbf
                go_wp2_with fail
                refine (begins_any lf hbs1.out (by omega) (by omega)).mono ?_
                rintro e w' ⟨rfl, rfl⟩
                rw [HBF.out]
                go_wp2
                go_meet
                refine ⟨?_, hch1.out⟩
                have e : nn = 0 := by rw [← HN.out, HZ1.out]; unfold leftC; rw [HBF.out]; rfl
                rw [e]; rfl
              | false =>
                have HBF := Lib.hid hbf; clear hbf
                have hN2 : (if begB ln lf then 0 else match lastB (ln.headD 0) lf with | some i => if begB ln (lf.drop i) then i else lf.length | none => lf.length) = nn := by
                  rw [← HN.out, HZ1.out]; unfold leftC; rw [HBF.out]; rfl
                have HN2 := Lib.hid hN2; clear hN2
                go_wp2_with fail
                refine (begins_any lf hbs1.out (by omega) (by omega)).mono ?_
                rintro e w' ⟨rfl, rfl⟩
                rw [HBF.out]
                have hcz := Lib.hid hch1.out
                have hdz := Lib.hid hd2.out
                clear hcv1 hcv1b hbs1 hch1 hd2
                obtain ⟨b2, c2, w3, hcv2, hbs2, hch2, -, -⟩ := conv9_22 w2 ln
                have hcv2b := conv22_9 (hdz.out.chg (hch2.mono (by simp)))
                have hd3 := Lib.hid (hdz.out.chg (hch2.mono (by simp)))
                have hbs2 := Lib.hid hbs2
                have hch3 := Lib.hid (hcz.out.trans hch2)
                clear hch2
                cases hbl : begB ln lf with
                | true =>
                  have HBL := Lib.hid hbl; clear hbl
                  go_wp2_with fail
                  refine (begins_any lf hbs2.out (by omega) (by omega)).mono ?_
                  rintro e w' ⟨rfl, rfl⟩
                  rw [HBL.out]
                  go_wp2
                  go_meet
                  refine ⟨?_, hch3.out⟩
                  have e : nn = 0 := by rw [← HN2.out, HBL.out]; rfl
                  rw [e]; rfl
                | false =>
                  have HBL := Lib.hid hbl; clear hbl
                  have hN3 : (match lastB (ln.headD 0) lf with | some i => if begB ln (lf.drop i) then i else lf.length | none => lf.length) = nn := by
                    rw [← HN2.out, HBL.out]; rfl
                  have HN3 := Lib.hid hN3; clear hN3
                  go_wp2_with fail
                  refine (begins_any lf hbs2.out (by omega) (by omega)).mono ?_
                  rintro e w' ⟨rfl, rfl⟩
                  rw [HBL.out]
                  clear hcv2 hcv2b hbs2
                  have hln0 : ln = ln.headD 0 :: ln.tail := by
                    cases ln with
                    | nil => simp at hll
                    | cons d r => rfl
                  have hidx : ∀ wx : World, (Instr.index 9 (.string (bstr ln)) (.int .i64 0)).run Tryz.prog wx = .ok (bv (ln.headD 0)) wx := fun wx => by have := index9 ln 0 (by omega) wx; rw [hln0] at this ⊢; exact this
                  have HLN := Lib.hid hln0; clear hln0
                  have hsa : lf.length = 0 ∨ ∃ b o, sa = some ⟨b, o, none⟩ := by
                    rcases Nat.eq_zero_or_pos lf.length with h0 | h0
                    · exact .inl h0
                    · obtain ⟨b, o, e, _⟩ := hd.out.at_ (by omega); exact .inr ⟨b, o, e⟩
                  have HDL := Lib.hid hdl
                  go_wp2
                  go_loopw [11] (fun I wx => ∃ i : Int, I = .int .i64 i ∧ -1 ≤ i ∧ i < lf.length ∧ NoAft (ln.headD 0) lf (i + 1).toNat ∧ Chg [] w1 wx) (fun I _ => (intOf I + 1).toNat)
                  case atStart => exact ⟨_, rfl, by omega, by omega, fun j h1 h2 => by omega, hch3.out⟩
                  case round =>
                    obtain ⟨i, rfl, hi1, hi2, hna, hcx⟩ := hrel
                    have HDX := Lib.hid (hd.out.chg (hcx.mono (by simp)))
                    have HCX := Lib.hid hcx
                    have HNA := Lib.hid hna
                    clear hcx hna
                    by_cases hneg : i = -1
                    · subst hneg
                      go_wp2
                      go_quiet (fail)
                      go_wp2
                      go_meet
                      refine ⟨?_, HCX.out.drewN _⟩
                      have e : lastB (ln.headD 0) lf = none := lastB_none (fun j hj => HNA.out j (Nat.zero_le _) hj)
                      have e2 := HN3.out
                      rw [e] at e2
                      rw [← e2, HDL.out]
                    · rcases hsa with h0 | ⟨b, o, hsa⟩
                      · exfalso; omega
                      · skip
                        obtain ⟨k, rfl⟩ := Int.eq_ofNat_of_zero_le (by omega : 0 ≤ i)
                        subst hsa
                        have hkl : k < lf.length := by omega
                        have hcell := (HDX.out.seg (by omega)).cell k hkl
                        have hslk : ∀ wy : World, (Instr.slice 22 (.slice (some ⟨b, o, none⟩) (rem.length - at') (c - at')) (some (.int .i64 (k : Int))) none none).run Tryz.prog wy = .ok (.slice (subA (some ⟨b, o, none⟩) (c - at') k) (rem.length - at' - k) (c - at' - k)) wy :=
                          fun wy => slice22_l (some ⟨b, o, none⟩) (rem.length - at') (c - at') .i64 (k : Int) (by omega) (by omega) wy
                        generalize hdd : lf.getD k 0 = d at hcell
                        have HDD := Lib.hid hdd; clear hdd hneg
                        generalize ln.headD 0 = h0 at *
                        by_cases he : d = h0
                        · have ht : ((d.toNat : Int) == (h0.toNat : Int)) = true := bv_eq h0 _ rfl he
                          have HE := Lib.hid he; clear he
                          go_wp2
                          go_quiet (fail)
                          obtain ⟨b3, c3, w4, hcv3, hbs3, hch4, -, -⟩ := conv9_22 (wr.drewN nq) ln
                          have hdk := (HDX.out.chg (((Chg.refl [] wr).drewN nq).mono (by simp))).chg (hch4.mono (by simp))
                          have hdk2 := hdk.drop k (by omega)
                          have hcv3b := conv22_9 hdk2
                          have hfin := Lib.hid ((HCX.out.drewN nq).trans hch4)
                          have hbs3 := Lib.hid hbs3
                          have hlast : lastB h0 lf = some k := lastB_some hkl (HDD.out.trans HE.out) (fun j hj hj2 => HNA.out j (by omega) hj2)
                          have HL := Lib.hid hlast; clear hlast hch4 hdk hdk2
                          cases hbk : begB ln (lf.drop k) with
                          | true =>
                            have HBK := Lib.hid hbk; clear hbk
                            go_wp2_with fail
                            refine (begins_any (lf.drop k) hbs3.out (by omega) (by simp; omega)).mono ?_
                            rintro e w' ⟨rfl, rfl⟩
                            rw [HBK.out]
                            go_wp2
                            go_meet
                            refine ⟨?_, hfin.out⟩
                            have e2 := HN3.out
                            rw [HL.out] at e2
                            simp only [HBK.out, if_true] at e2
                            rw [e2]
                          | false =>
                            have HBK := Lib.hid hbk; clear hbk
                            go_wp2_with fail
                            refine (begins_any (lf.drop k) hbs3.out (by omega) (by simp; omega)).mono ?_
                            rintro e w' ⟨rfl, rfl⟩
                            rw [HBK.out]
                            go_wp2
                            go_meet
                            refine ⟨?_, hfin.out⟩
                            have e2 := HN3.out
                            rw [HL.out] at e2
                            simp only [HBK.out, Bool.false_eq_true, if_false] at e2
                            rw [← e2, HDL.out]
                        · have ht : ((d.toNat : Int) == (h0.toNat : Int)) = false := bv_ne h0 _ rfl he
                          have HE := Lib.hid he; clear he
                          go_wp2
                          go_quiet (fail)
                          go_wp2
                          go_roundw
                          case rel =>
                            refine ⟨(k : Int) - 1, rfl, by omega, by omega, ?_, HCX.out.drewN _⟩
                            intro j hj hj2
                            by_cases e : j = k
                            · subst e; rw [HDD.out]; exact HE.out
                            · exact HNA.out j (by omega) hj2
                          case measure => first | (simp [intOf]; done) | (simp [intOf]; omega)
            | false =>
              have hN2 : (if begB ln lf then 0 else match lastB (ln.headD 0) lf with | some i => if begB ln (lf.drop i) then i else lf.length | none => lf.length) = nn := by
                rw [← HN.out, HZ1.out]; unfold leftC; rfl
              have HN2 := Lib.hid hN2; clear hN2
              have hcz := Lib.hid (Chg.refl [] w1)
              have hdz := Lib.hid hd.out
              clear hcv1 hcv1b hbs1 hch1 hd2
              obtain ⟨b2, c2, w3, hcv2, hbs2, hch2, -, -⟩ := conv9_22 w1 ln
              have hcv2b := conv22_9 (hdz.out.chg (hch2.mono (by simp)))
              have hd3 := Lib.hid (hdz.out.chg (hch2.mono (by simp)))
              have hbs2 := Lib.hid hbs2
              have hch3 := Lib.hid (hcz.out.trans hch2)
              clear hch2
              cases hbl : begB ln lf with
              | true =>
                have HBL := Lib.hid hbl; clear hbl
                go_wp2_with fail
                refine (begins_any lf hbs2.out (by omega) (by omega)).mono ?_
                rintro e w' ⟨rfl, rfl⟩
                rw [HBL.out]
                go_wp2
                go_meet
                refine ⟨?_, hch3.out⟩
                have e : nn = 0 := by rw [← HN2.out, HBL.out]; rfl
                rw [e]; rfl
              | false =>
                have HBL := Lib.hid hbl; clear hbl
                have hN3 : (match lastB (ln.headD 0) lf with | some i => if begB ln (lf.drop i) then i else lf.length | none => lf.length) = nn := by
                  rw [← HN2.out, HBL.out]; rfl
                have HN3 := Lib.hid hN3; clear hN3
                go_wp2_with fail
                refine (begins_any lf hbs2.out (by omega) (by omega)).mono ?_
                rintro e w' ⟨rfl, rfl⟩
                rw [HBL.out]
                clear hcv2 hcv2b hbs2
                have hln0 : ln = ln.headD 0 :: ln.tail := by
                  cases ln with
                  | nil => simp at hll
                  | cons d r => rfl
                have hidx : ∀ wx : World, (Instr.index 9 (.string (bstr ln)) (.int .i64 0)).run Tryz.prog wx = .ok (bv (ln.headD 0)) wx := fun wx => by have := index9 ln 0 (by omega) wx; rw [hln0] at this ⊢; exact this
                have HLN := Lib.hid hln0; clear hln0
                have hsa : lf.length = 0 ∨ ∃ b o, sa = some ⟨b, o, none⟩ := by
                  rcases Nat.eq_zero_or_pos lf.length with h0 | h0
                  · exact .inl h0
                  · obtain ⟨b, o, e, _⟩ := hd.out.at_ (by omega); exact .inr ⟨b, o, e⟩
                have HDL := Lib.hid hdl
                go_wp2
                go_loopw [11] (fun I wx => ∃ i : Int, I = .int .i64 i ∧ -1 ≤ i ∧ i < lf.length ∧ NoAft (ln.headD 0) lf (i + 1).toNat ∧ Chg [] w1 wx) (fun I _ => (intOf I + 1).toNat)
                case atStart => exact ⟨_, rfl, by omega, by omega, fun j h1 h2 => by omega, hch3.out⟩
                case round =>
                  obtain ⟨i, rfl, hi1, hi2, hna, hcx⟩ := hrel
                  have HDX := Lib.hid (hd.out.chg (hcx.mono (by simp)))
                  have HCX := Lib.hid hcx
                  have HNA := Lib.hid hna
                  clear hcx hna
                  by_cases hneg : i = -1
                  · subst hneg
                    go_wp2
                    go_quiet (fail)
                    go_wp2
                    go_meet
                    refine ⟨?_, HCX.out.drewN _⟩
                    have e : lastB (ln.headD 0) lf = none := lastB_none (fun j hj => HNA.out j (Nat.zero_le _) hj)
                    have e2 := HN3.out
                    rw [e] at e2
                    rw [← e2, HDL.out]
                  · rcases hsa with h0 | ⟨b, o, hsa⟩
                    · exfalso; omega
                    · skip
                      obtain ⟨k, rfl⟩ := Int.eq_ofNat_of_zero_le (by omega : 0 ≤ i)
                      subst hsa
                      have hkl : k < lf.length := by omega
                      have hcell := (HDX.out.seg (by omega)).cell k hkl
                      have hslk : ∀ wy : World, (Instr.slice 22 (.slice (some ⟨b, o, none⟩) (rem.length - at') (c - at')) (some (.int .i64 (k : Int))) none none).run Tryz.prog wy = .ok (.slice (subA (some ⟨b, o, none⟩) (c - at') k) (rem.length - at' - k) (c - at' - k)) wy :=
                        fun wy => slice22_l (some ⟨b, o, none⟩) (rem.length - at') (c - at') .i64 (k : Int) (by omega) (by omega) wy
                      generalize hdd : lf.getD k 0 = d at hcell
                      have HDD := Lib.hid hdd; clear hdd hneg
                      generalize ln.headD 0 = h0 at *
                      by_cases he : d = h0
                      · have ht : ((d.toNat : Int) == (h0.toNat : Int)) = true := bv_eq h0 _ rfl he
                        have HE := Lib.hid he; clear he
                        go_wp2
                        go_quiet (fail)
                        obtain ⟨b3, c3, w4, hcv3, hbs3, hch4, -, -⟩ := conv9_22 (wr.drewN nq) ln
                        have hdk := (HDX.out.chg (((Chg.refl [] wr).drewN nq).mono (by simp))).chg (hch4.mono (by simp))
                        have hdk2 := hdk.drop k (by omega)
                        have hcv3b := conv22_9 hdk2
                        have hfin := Lib.hid ((HCX.out.drewN nq).trans hch4)
                        have hbs3 := Lib.hid hbs3
                        have hlast : lastB h0 lf = some k := lastB_some hkl (HDD.out.trans HE.out) (fun j hj hj2 => HNA.out j (by omega) hj2)
                        have HL := Lib.hid hlast; clear hlast hch4 hdk hdk2
                        cases hbk : begB ln (lf.drop k) with
                        | true =>
                          have HBK := Lib.hid hbk; clear hbk
                          go_wp2_with fail
                          refine (begins_any (lf.drop k) hbs3.out (by omega) (by simp; omega)).mono ?_
                          rintro e w' ⟨rfl, rfl⟩
                          rw [HBK.out]
                          go_wp2
                          go_meet
                          refine ⟨?_, hfin.out⟩
                          have e2 := HN3.out
                          rw [HL.out] at e2
                          simp only [HBK.out, if_true] at e2
                          rw [e2]
                        | false =>
                          have HBK := Lib.hid hbk; clear hbk
                          go_wp2_with fail
                          refine (begins_any (lf.drop k) hbs3.out (by omega) (by simp; omega)).mono ?_
                          rintro e w' ⟨rfl, rfl⟩
                          rw [HBK.out]
                          go_wp2
                          go_meet
                          refine ⟨?_, hfin.out⟩
                          have e2 := HN3.out
                          rw [HL.out] at e2
                          simp only [HBK.out, Bool.false_eq_true, if_false] at e2
                          rw [← e2, HDL.out]
                      · have ht : ((d.toNat : Int) == (h0.toNat : Int)) = false := bv_ne h0 _ rfl he
                        have HE := Lib.hid he; clear he
                        go_wp2
                        go_quiet (fail)
                        go_wp2
                        go_roundw
                        case rel =>
                          refine ⟨(k : Int) - 1, rfl, by omega, by omega, ?_, HCX.out.drewN _⟩
                          intro j hj hj2
                          by_cases e : j = k
                          · subst e; rw [HDD.out]; exact HE.out
                          · exact HNA.out j (by omega) hj2
                        case measure => first | (simp [intOf]; done) | (simp [intOf]; omega)
  | false =>
    have HBG := Lib.hid hbg; clear hbg
    have hR0 : res = match srchB rem ln 0 0 with | (true, i) => (i, 0) | (false, a) => (a + leftC fr ln (rem.drop a) (a == 0), 1) := by
      rw [← HR.out]; unfold bodyC; rw [HBG.out]; rfl
    have HR0 := Lib.hid hR0; clear hR0 HR
    go_wp2_with fail
    refine (begins_any fr HS1.out (by omega) (by omega)).mono ?_
    rintro e w' ⟨rfl, rfl⟩
    rw [HBG.out]
    go_wp2_with fail
    refine (begins_any fr HS1.out (by omega) (by omega)).mono ?_
    rintro e w' ⟨rfl, rfl⟩
    rw [HBG.out]
    go_wp2
    go_loop [6, 7] (fun A I => ∃ (at' i : Nat), A = .int .i64 at' ∧ I = .int .i64 i ∧ at' ≤ i ∧ i ≤ rem.length ∧ Hid (srchB rem ln at' i = srchB rem ln 0 0)) (fun _ I => rem.length - (intOf I).toNat)
    case atStart => exact ⟨0, 0, rfl, rfl, Nat.le_refl _, by omega, rfl⟩
    case round =>
      obtain ⟨at', i, rfl, rfl, hai, hil, hsr⟩ := hrel
      by_cases hlt : i < rem.length
      · obtain ⟨b, o, rfl, _, _⟩ := HS1.out.at_ (by omega)
        have hsl : (Instr.slice 22 (.slice (some ⟨b, o, none⟩) rem.length c) (some (.int .i64 (i : Int))) none none).run Tryz.prog w1 = .ok (.slice (subA (some ⟨b, o, none⟩) c i) (rem.length - i) (c - i)) w1 :=
          slice22_l (some ⟨b, o, none⟩) rem.length c .i64 (i : Int) (by omega) (by omega) w1
        have hd := HS1.out.drop i (by omega)
        have hdl : (rem.drop i).length ≤ 10000 := by simp; omega
        have hdl2 : (rem.drop i).length = rem.length - i := by simp
        cases hbi : begB (rem.drop i) ln with
        | false =>
          have HBI := Lib.hid hbi; clear hbi hdl2
          have hd := Lib.hid hd
          go_wp2_with fail
          refine (begins_any ln hd.out (by omega) (by omega)).mono ?_
          rintro e w' ⟨rfl, rfl⟩
          rw [HBI.out]
          go_wp2
          go_round
          case rel =>
            refine ⟨at', i + 1, rfl, by go_num, by omega, by omega, ?_⟩
            have e := hsr.out
            rw [srchB, dif_pos hlt, HBI.out] at e
            exact e
          case measure => simp [intOf]; omega
        | true =>
          have hle : ln.length ≤ (rem.drop i).length := by
            rcases Nat.lt_or_ge (rem.drop i).length ln.length with h2 | h2
            · rw [begB_short _ _ h2] at hbi; cases hbi
            · exact h2
          have HBI := Lib.hid hbi; clear hbi
          have hle2 : ln.length ≤ rem.length - i := by omega
          have hd := Lib.hid hd
          have HDL2 := Lib.hid hdl2; clear hdl2
          cases hei : endsB (rem.drop i) ln with
          | false =>
            have HEI := Lib.hid hei; clear hei
            go_wp2_with fail
            refine (begins_any ln hd.out (by omega) (by omega)).mono ?_
            rintro e w' ⟨rfl, rfl⟩
            rw [HBI.out]
            go_wp2_with fail
            refine (ends_any ln hd.out (by omega) hle).mono ?_
            rintro e w' ⟨rfl, rfl⟩
            rw [HEI.out]
            go_wp2
            go_round
            case rel =>
              refine ⟨i + (ln.length - 1) + 1, i + (ln.length - 1) + 1, ?_, ?_, Nat.le_refl _, by omega, ?_⟩
              · rw [show ((i + (ln.length - 1) + 1 : Nat) : Int) = (i : Int) + ((ln.length : Int) - 1) + 1 from by omega]
              · rw [show ((i + (ln.length - 1) + 1 : Nat) : Int) = (i : Int) + ((ln.length : Int) - 1) + 1 from by omega]
              · have e := hsr.out
                rw [srchB, dif_pos hlt, HBI.out, HEI.out] at e
                exact e
            case measure => simp [intOf]; omega
          | true =>
            have HEI := Lib.hid hei; clear hei
            have hsh : (Instr.slice 22 (.slice (some ⟨b, o, none⟩) rem.length c) none (some (.int .i64 (i : Int))) none).run Tryz.prog w1 = .ok (.slice (some ⟨b, o, none⟩) i c) w1 :=
              slice22_h (some ⟨b, o, none⟩) rem.length c .i64 (i : Int) (by omega) (by omega) w1
            go_wp2_with fail
            refine (begins_any ln hd.out (by omega) (by omega)).mono ?_
            rintro e w' ⟨rfl, rfl⟩
            rw [HBI.out]
            go_wp2_with fail
            refine (ends_any ln hd.out (by omega) hle).mono ?_
            rintro e w' ⟨rfl, rfl⟩
            rw [HEI.out]
            go_wp2
            go_ret2
            have e : res = (i, 0) := by
              rw [HR0.out, ← hsr.out, srchB, dif_pos hlt, HBI.out, HEI.out]; rfl
            rw [e]
            have hc2 : ∀ v', Chg [RB] w1 (w1.setCell ⟨RB, 0, none⟩ v') := fun v' => (Chg.refl _ _).setCell (by simp) _
            exact ⟨⟨_, rfl, (HS1.out.take i (by omega)).chg ((hc2 _).mono (by simp))⟩, ⟨hn, _, HB1.out.set 0 _, hd.out.chg ((hc2 _).mono (by simp))⟩, HC1.out.trans (hc2 _)⟩
      · have hie : i = rem.length := by omega
        have hR1 : res = (at' + leftC fr ln (rem.drop at') (at' == 0), 1) := by
          rw [HR0.out, ← hsr.out, srchB, dif_neg hlt]
        have HR1 := Lib.hid hR1; clear hR1 hsr hlt
        subst hie
        have hsl : (Instr.slice 22 (.slice a rem.length c) (some (.int .i64 (at' : Int))) none none).run Tryz.prog w1 = .ok (.slice (subA a c at') (rem.length - at') (c - at')) w1 :=
          slice22_l a rem.length c .i64 (at' : Int) (by omega) (by omega) w1
        have hd := Lib.hid (HS1.out.drop at' hai)
        have HNN := Lib.hid (show leftC fr ln (rem.drop at') (at' == 0) = leftC fr ln (rem.drop at') (at' == 0) from rfl)
        have hnn : leftC fr ln (rem.drop at') (at' == 0) ≤ rem.length - at' := by have := leftC_le fr ln (rem.drop at') (at' == 0); simp at this; omega
        generalize hnq : leftC fr ln (rem.drop at') (at' == 0) = nn at hnn HR1
        clear HNN
        have HN := Lib.hid hnq; clear hnq
        go_upto_block 2 with (fail)
        go_cut [10] (fun n wz => n = .int .i64 (nn : Int) ∧ Chg [] w1 wz)
        case rest =>
          obtain ⟨rfl, hcz⟩ := hcut
          have hlt := HB1.out.lt
          have hbz := HB1.out.chg hcz (by simp)
          have hsz := HS1.out.chg (hcz.mono (by simp))
          have z0 : wc.cell? ⟨RB, 0, none⟩ = some (.slice a rem.length c) := hbz.cell 0
          have zf : wc.frozen? ⟨RB, 0, none⟩ = false := hbz.free 0
          have s1 : (Instr.slice 22 (.slice a rem.length c) none (some (.int .i64 ((at' : Int) + (nn : Int)))) none).run Tryz.prog wc = .ok (.slice a (at' + nn) c) wc :=
            slice22_h a rem.length c .i64 ((at' : Int) + (nn : Int)) (by omega) (by omega) wc
          have s2 : (Instr.slice 22 (.slice a rem.length c) (some (.int .i64 ((at' : Int) + (nn : Int)))) none none).run Tryz.prog wc = .ok (.slice (subA a c (at' + nn)) (rem.length - (at' + nn)) (c - (at' + nn))) wc :=
            slice22_l a rem.length c .i64 ((at' : Int) + (nn : Int)) (by omega) (by omega) wc
          have HZ := Lib.hid (And.intro hcz (And.intro hbz hsz))
          clear hcz hbz hsz hd hsl G0 F0
          go_wp2
          go_ret2
          rw [HR1.out]
          have hc2 : ∀ v', Chg [RB] wc (wc.setCell ⟨RB, 0, none⟩ v') := fun v' => (Chg.refl _ _).setCell (by simp) _
          exact ⟨⟨_, rfl, (HZ.out.2.2.take (at' + nn) (by omega)).chg ((hc2 _).mono (by simp))⟩, ⟨hn, _, HZ.out.2.1.set 0 _, (HZ.out.2.2.drop (at' + nn) (by omega)).chg ((hc2 _).mono (by simp))⟩, (HC1.out.trans (HZ.out.1.mono (by simp))).trans (hc2 _)⟩
        case first =>
          have hdl : (rem.drop at').length = rem.length - at' := by simp
          generalize rem.drop at' = lf at *
          generalize subA a c at' = sa at *
          have hlf2 : lf.length ≤ 10000 := by omega
          have hcase : ∃ z : Bool, (at' == 0) = z ∧ (((at' : Nat) : Int) == 0) = z := ⟨at' == 0, rfl, by rw [Bool.eq_iff_iff, beq_iff_eq, beq_iff_eq]; omega⟩
          obtain ⟨z, hz1, hz2⟩ := hcase
          have HZ1 := Lib.hid hz1; clear hz1
          obtain ⟨b1, c1, w2, hcv1, hbs1, hch1, -, -⟩ := conv9_22 w1 fr
          have hcv1b := conv22_9 (hd.out.chg (hch1.mono (by simp)))
          have hd2 := Lib.hid (hd.out.chg (hch1.mono (by simp)))
          have hbs1 := Lib.hid hbs1
          have hch1 := Lib.hid hch1
          have step : True := trivial
          cases z with
          | true =>
            cases hbf : begB fr lf with
            | true =>
              have HBF := Lib.hid hbf; clear hbf
              go_wp2_with fail
              refine (begins_any lf hbs1.out (by omega) (by omega)).mono ?_
              rintro e w' ⟨rfl, rfl⟩
              rw [HBF.out]
              go_wp2
              go_meet
              refine ⟨?_, hch1.out⟩
              have e : nn = 0 := by rw [← HN.out, HZ1.out]; unfold leftC; rw [HBF.out]; rfl
              rw [e]; rfl
            | false =>
              have HBF := Lib.hid hbf; clear hbf
              have hN2 : (if begB ln lf then 0 else match lastB (ln.headD 0) lf with | some i => if begB ln (lf.drop i) then i else lf.length | none => lf.length) = nn := by
                rw [← HN.out, HZ1.out]; unfold leftC; rw [HBF.out]; rfl
              have HN2 := Lib.hid hN2; clear hN2
              go_wp2_with fail
              refine (begins_any lf hbs1.out (by omega) (by omega)).mono ?_
              rintro e w' ⟨rfl, rfl⟩
              rw [HBF.out]
              have hcz := Lib.hid hch1.out
              have hdz := Lib.hid hd2.out
              clear hcv1 hcv1b hbs1 hch1 hd2
              obtain ⟨b2, c2, w3, hcv2, hbs2, hch2, -, -⟩ := conv9_22 w2 ln
              have hcv2b := conv22_9 (hdz.out.chg (hch2.mono (by simp)))
              have hd3 := Lib.hid (hdz.out.chg (hch2.mono (by simp)))
              have hbs2 := Lib.hid hbs2
              have hch3 := Lib.hid (hcz.out.trans hch2)
              clear hch2
              cases hbl : begB ln lf with
              | true =>
                have HBL := Lib.hid hbl; clear hbl
                go_wp2_with fail
                refine (begins_any lf hbs2.out (by omega) (by omega)).mono ?_
                rintro e w' ⟨rfl, rfl⟩
                rw [HBL.out]
                go_wp2
                go_meet
                refine ⟨?_, hch3.out⟩
                have e : nn = 0 := by rw [← HN2.out, HBL.out]; rfl
                rw [e]; rfl
              | false =>
                have HBL := Lib.hid hbl; clear hbl
                have hN3 : (match lastB (ln.headD 0) lf with | some i => if begB ln (lf.drop i) then i else lf.length | none => lf.length) = nn := by
                  rw [← HN2.out, HBL.out]; rfl
                have HN3 := Lib.hid hN3; clear hN3
                go_wp2_with fail
                refine (begins_any lf hbs2.out (by omega) (by omega)).mono ?_
                rintro e w' ⟨rfl, rfl⟩
                rw [HBL.out]
                clear hcv2 hcv2b hbs2
                have hln0 : ln = ln.headD 0 :: ln.tail := by
                  cases ln with
                  | nil => simp at hll
                  | cons d r => rfl
                have hidx : ∀ wx : World, (Instr.index 9 (.string (bstr ln)) (.int .i64 0)).run Tryz.prog wx = .ok (bv (ln.headD 0)) wx := fun wx => by have := index9 ln 0 (by omega) wx; rw [hln0] at this ⊢; exact this
                have HLN := Lib.hid hln0; clear hln0
                have hsa : lf.length = 0 ∨ ∃ b o, sa = some ⟨b, o, none⟩ := by
                  rcases Nat.eq_zero_or_pos lf.length with h0 | h0
                  · exact .inl h0
                  · obtain ⟨b, o, e, _⟩ := hd.out.at_ (by omega); exact .inr ⟨b, o, e⟩
                have HDL := Lib.hid hdl
                go_wp2
                go_loopw [11] (fun I wx => ∃ i : Int, I = .int .i64 i ∧ -1 ≤ i ∧ i < lf.length ∧ NoAft (ln.headD 0) lf (i + 1).toNat ∧ Chg [] w1 wx) (fun I _ => (intOf I + 1).toNat)
                case atStart => exact ⟨_, rfl, by omega, by omega, fun j h1 h2 => by omega, hch3.out⟩
                case round =>
                  obtain ⟨i, rfl, hi1, hi2, hna, hcx⟩ := hrel
                  have HDX := Lib.hid (hd.out.chg (hcx.mono (by simp)))
                  have HCX := Lib.hid hcx
                  have HNA := Lib.hid hna
                  clear hcx hna
                  by_cases hneg : i = -1
                  · subst hneg
                    go_wp2
                    go_quiet (fail)
                    go_wp2
                    go_meet
                    refine ⟨?_, HCX.out.drewN _⟩
                    have e : lastB (ln.headD 0) lf = none := lastB_none (fun j hj => HNA.out j (Nat.zero_le _) hj)
                    have e2 := HN3.out
                    rw [e] at e2
                    rw [← e2, HDL.out]
                  · rcases hsa with h0 | ⟨b, o, hsa⟩
                    · exfalso; omega
                    · skip
                      obtain ⟨k, rfl⟩ := Int.eq_ofNat_of_zero_le (by omega : 0 ≤ i)
                      subst hsa
                      have hkl : k < lf.length := by omega
                      have hcell := (HDX.out.seg (by omega)).cell k hkl
                      have hslk : ∀ wy : World, (Instr.slice 22 (.slice (some ⟨b, o, none⟩) (rem.length - at') (c - at')) (some (.int .i64 (k : Int))) none none).run Tryz.prog wy = .ok (.slice (subA (some ⟨b, o, none⟩) (c - at') k) (rem.length - at' - k) (c - at' - k)) wy :=
                        fun wy => slice22_l (some ⟨b, o, none⟩) (rem.length - at') (c - at') .i64 (k : Int) (by omega) (by omega) wy
                      generalize hdd : lf.getD k 0 = d at hcell
                      have HDD := Lib.hid hdd; clear hdd hneg
                      generalize ln.headD 0 = h0 at *
                      by_cases he : d = h0
                      · have ht : ((d.toNat : Int) == (h0.toNat : Int)) = true := bv_eq h0 _ rfl he
                        have HE := Lib.hid he; clear he
                        go_wp2
                        go_quiet (fail)
                        obtain ⟨b3, c3, w4, hcv3, hbs3, hch4, -, -⟩ := conv9_22 (wr.drewN nq) ln
                        have hdk := (HDX.out.chg (((Chg.refl [] wr).drewN nq).mono (by simp))).chg (hch4.mono (by simp))
                        have hdk2 := hdk.drop k (by omega)
                        have hcv3b := conv22_9 hdk2
                        have hfin := Lib.hid ((HCX.out.drewN nq).trans hch4)
                        have hbs3 := Lib.hid hbs3
                        have hlast : lastB h0 lf = some k := lastB_some hkl (HDD.out.trans HE.out) (fun j hj hj2 => HNA.out j (by omega) hj2)
                        have HL := Lib.hid hlast; clear hlast hch4 hdk hdk2
                        cases hbk : begB ln (lf.drop k) with
                        | true =>
                          have HBK := Lib.hid hbk; clear hbk
                          go_wp2_with fail
                          refine (begins_any (lf.drop k) hbs3.out (by omega) (by simp; omega)).mono ?_
                          rintro e w' ⟨rfl, rfl⟩
                          rw [HBK.out]
                          go_wp2
                          go_meet
                          refine ⟨?_, hfin.out⟩
                          have e2 := HN3.out
                          rw [HL.out] at e2
                          simp only [HBK.out, if_true] at e2
                          rw [e2]
                        | false =>
                          have HBK := Lib.hid hbk; clear hbk
                          go_wp2_with fail
                          refine (begins_any (lf.drop k) hbs3.out (by omega) (by simp; omega)).mono ?_
                          rintro e w' ⟨rfl, rfl⟩
                          rw [HBK.out]
                          go_wp2
                          go_meet
                          refine ⟨?_, hfin.out⟩
                          have e2 := HN3.out
                          rw [HL.out] at e2
                          simp only [HBK.out, Bool.false_eq_true, if_false] at e2
                          rw [← e2, HDL.out]
                      · have ht : ((d.toNat : Int) == (h0.toNat : Int)) = false := bv_ne h0 _ rfl he
                        have HE := Lib.hid he; clear he
                        go_wp2
                        go_quiet (fail)
                        go_wp2
                        go_roundw
                        case rel =>
                          refine ⟨(k : Int) - 1, rfl, by omega, by omega, ?_, HCX.out.drewN _⟩
                          intro j hj hj2
                          by_cases e : j = k
                          · subst e; rw [HDD.out]; exact HE.out
                          · exact HNA.out j (by omega) hj2
                        case measure => first | (simp [intOf]; done) | (simp [intOf]; omega)
          | false =>
            have hN2 : (if begB ln lf then 0 else match lastB (ln.headD 0) lf with | some i => if begB ln (lf.drop i) then i else lf.length | none => lf.length) = nn := by
              rw [← HN.out, HZ1.out]; unfold leftC; rfl
            have HN2 := Lib.hid hN2; clear hN2
            have hcz := Lib.hid (Chg.refl [] w1)
            have hdz := Lib.hid hd.out
            clear hcv1 hcv1b hbs1 hch1 hd2
            obtain ⟨b2, c2, w3, hcv2, hbs2, hch2, -, -⟩ := conv9_22 w1 ln
            have hcv2b := conv22_9 (hdz.out.chg (hch2.mono (by simp)))
            have hd3 := Lib.hid (hdz.out.chg (hch2.mono (by simp)))
            have hbs2 := Lib.hid hbs2
            have hch3 := Lib.hid (hcz.out.trans hch2)
            clear hch2
            cases hbl : begB ln lf with
            | true =>
              have HBL := Lib.hid hbl; clear hbl
              go_wp2_with fail
              refine (begins_any lf hbs2.out (by omega) (by omega)).mono ?_
              rintro e w' ⟨rfl, rfl⟩
              rw [HBL.out]
              go_wp2
              go_meet
              refine ⟨?_, hch3.out⟩
              have e : nn = 0 := by rw [← HN2.out, HBL.out]; rfl
              rw [e]; rfl
            | false =>
              have HBL := Lib.hid hbl; clear hbl
              have hN3 : (match lastB (ln.headD 0) lf with | some i => if begB ln (lf.drop i) then i else lf.length | none => lf.length) = nn := by
                rw [← HN2.out, HBL.out]; rfl
              have HN3 := Lib.hid hN3; clear hN3
              go_wp2_with fail
              refine (begins_any lf hbs2.out (by omega) (by omega)).mono ?_
              rintro e w' ⟨rfl, rfl⟩
              rw [HBL.out]
              clear hcv2 hcv2b hbs2
              have hln0 : ln = ln.headD 0 :: ln.tail := by
                cases ln with
                | nil => simp at hll
                | cons d r => rfl
              have hidx : ∀ wx : World, (Instr.index 9 (.string (bstr ln)) (.int .i64 0)).run Tryz.prog wx = .ok (bv (ln.headD 0)) wx := fun wx => by have := index9 ln 0 (by omega) wx; rw [hln0] at this ⊢; exact this
              have HLN := Lib.hid hln0; clear hln0
              have hsa : lf.length = 0 ∨ ∃ b o, sa = some ⟨b, o, none⟩ := by
                rcases Nat.eq_zero_or_pos lf.length with h0 | h0
                · exact .inl h0
                · obtain ⟨b, o, e, _⟩ := hd.out.at_ (by omega); exact .inr ⟨b, o, e⟩
              have HDL := Lib.hid hdl
              go_wp2
              go_loopw [11] (fun I wx => ∃ i : Int, I = .int .i64 i ∧ -1 ≤ i ∧ i < lf.length ∧ NoAft (ln.headD 0) lf (i + 1).toNat ∧ Chg [] w1 wx) (fun I _ => (intOf I + 1).toNat)
              case atStart => exact ⟨_, rfl, by omega, by omega, fun j h1 h2 => by omega, hch3.out⟩
              case round =>
                obtain ⟨i, rfl, hi1, hi2, hna, hcx⟩ := hrel
                have HDX := Lib.hid (hd.out.chg (hcx.mono (by simp)))
                have HCX := Lib.hid hcx
                have HNA := Lib.hid hna
                clear hcx hna
                by_cases hneg : i = -1
                · subst hneg
                  go_wp2
                  go_quiet (fail)
                  go_wp2
                  go_meet
                  refine ⟨?_, HCX.out.drewN _⟩
                  have e : lastB (ln.headD 0) lf = none := lastB_none (fun j hj => HNA.out j (Nat.zero_le _) hj)
                  have e2 := HN3.out
                  rw [e] at e2
                  rw [← e2, HDL.out]
                · rcases hsa with h0 | ⟨b, o, hsa⟩
                  · exfalso; omega
                  · skip
                    obtain ⟨k, rfl⟩ := Int.eq_ofNat_of_zero_le (by omega : 0 ≤ i)
                    subst hsa
                    have hkl : k < lf.length := by omega
                    have hcell := (HDX.out.seg (by omega)).cell k hkl
                    have hslk : ∀ wy : World, (Instr.slice 22 (.slice (some ⟨b, o, none⟩) (rem.length - at') (c - at')) (some (.int .i64 (k : Int))) none none).run Tryz.prog wy = .ok (.slice (subA (some ⟨b, o, none⟩) (c - at') k) (rem.length - at' - k) (c - at' - k)) wy :=
                      fun wy => slice22_l (some ⟨b, o, none⟩) (rem.length - at') (c - at') .i64 (k : Int) (by omega) (by omega) wy
                    generalize hdd : lf.getD k 0 = d at hcell
                    have HDD := Lib.hid hdd; clear hdd hneg
                    generalize ln.headD 0 = h0 at *
                    by_cases he : d = h0
                    · have ht : ((d.toNat : Int) == (h0.toNat : Int)) = true := bv_eq h0 _ rfl he
                      have HE := Lib.hid he; clear he
                      go_wp2
                      go_quiet (fail)
                      obtain ⟨b3, c3, w4, hcv3, hbs3, hch4, -, -⟩ := conv9_22 (wr.drewN nq) ln
                      have hdk := (HDX.out.chg (((Chg.refl [] wr).drewN nq).mono (by simp))).chg (hch4.mono (by simp))
                      have hdk2 := hdk.drop k (by omega)
                      have hcv3b := conv22_9 hdk2
                      have hfin := Lib.hid ((HCX.out.drewN nq).trans hch4)
                      have hbs3 := Lib.hid hbs3
                      have hlast : lastB h0 lf = some k := lastB_some hkl (HDD.out.trans HE.out) (fun j hj hj2 => HNA.out j (by omega) hj2)
                      have HL := Lib.hid hlast; clear hlast hch4 hdk hdk2
                      cases hbk : begB ln (lf.drop k) with
                      | true =>
                        have HBK := Lib.hid hbk; clear hbk
                        go_wp2_with fail
                        refine (begins_any (lf.drop k) hbs3.out (by omega) (by simp; omega)).mono ?_
                        rintro e w' ⟨rfl, rfl⟩
                        rw [HBK.out]
                        go_wp2
                        go_meet
                        refine ⟨?_, hfin.out⟩
                        have e2 := HN3.out
                        rw [HL.out] at e2
                        simp only [HBK.out, if_true] at e2
                        rw [e2]
                      | false =>
                        have HBK := Lib.hid hbk; clear hbk
                        go_wp2_with fail
                        refine (begins_any (lf.drop k) hbs3.out (by omega) (by simp; omega)).mono ?_
                        rintro e w' ⟨rfl, rfl⟩
                        rw [HBK.out]
                        go_wp2
                        go_meet
                        refine ⟨?_, hfin.out⟩
                        have e2 := HN3.out
                        rw [HL.out] at e2
                        simp only [HBK.out, Bool.false_eq_true, if_false] at e2
                        rw [← e2, HDL.out]
                    · have ht : ((d.toNat : Int) == (h0.toNat : Int)) = false := bv_ne h0 _ rfl he
                      have HE := Lib.hid he; clear he
                      go_wp2
                      go_quiet (fail)
                      go_wp2
                      go_roundw
                      case rel =>
                        refine ⟨(k : Int) - 1, rfl, by omega, by omega, ?_, HCX.out.drewN _⟩
                        intro j hj hj2
                        by_cases e : j = k
                        · subst e; rw [HDD.out]; exact HE.out
                        · exact HNA.out j (by omega) hj2
                      case measure => first | (simp [intOf]; done) | (simp [intOf]; omega)
end Go.Proofs.YtekndndhgkdggaaGreatDoor
