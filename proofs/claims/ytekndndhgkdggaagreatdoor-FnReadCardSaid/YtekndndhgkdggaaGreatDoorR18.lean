/- impl's Skipped. impl's Read. What the reference tells is small enough; what it tells of one small body. laws' alive. -/
import Derived.Test.YtekndndhgkdggaaGreatDoorR17
namespace Go.Proofs.YtekndndhgkdggaaGreatDoor
open Go.RowKit

theorem readB_raw (bd : Bs) (which : List Bool) (k : Nat) : ∀ (out : List PartB) (nl rem : Bs), ∃ ps how, readB bd true which k out nl rem = some (ps, how) := by
  induction k with
  | zero => intro out nl rem; exact ⟨_, _, by rw [readB]⟩
  | succ k ih =>
    intro out nl rem
    rw [readB_succ]
    split
    · split
      · exact ⟨_, _, rfl⟩
      · exact ⟨_, _, rfl⟩
      · simp only [Bool.not_true, Bool.false_and, Bool.false_eq_true, if_false]
        exact ih _ _ _
    · exact ⟨_, _, rfl⟩
theorem specB_raw (bd : Bs) (which : List Bool) (b : Bs) : ∃ ps how, specB bd true which b = some (ps, how) := by
  unfold specB
  split
  · exact ⟨_, _, rfl⟩
  · exact readB_raw _ _ _ _ _ _

def ImPost (w : World) (ps : List PartB) (how : Nat) (e : Ending) (w' : World) : Prop :=
  ∃ v, e = .returned (.tuple #[v, .int .i64 (how : Int)]) ∧ PartsS [] w' v ps ∧ Chg [] w w'

set_option maxRecDepth 100000 in
set_option maxHeartbeats 1000000 in
/-- no boundary: no part -/
theorem nextNil_any {S : List Nat} {w : World} {MR : Nat} {h : Hs} {nl : Bs} {parts : Nat} (hm : MRS S w MR h [] nl (.pointer none) parts) (raw : Bool) :
    Calls Tryz.prog 35 #[.pointer (some ⟨MR, 0, none⟩), .bool raw, .int .i64 10485760, .int .i64 10000] w fun e w' => e = .returned (.tuple #[.pointer none, erv ⟨w.heap.size, 0, none⟩]) ∧ ∃ s, w' = w.alloc (.cells #[.string s] 120) := by
  obtain ⟨⟨t9, v1, v2, v3, v4, hmb, hv1, hv2, hv3, hv4⟩, hbn⟩ := hm
  have m2 : w.cell? ⟨MR, 2, none⟩ = some (.pointer none) := hmb.cell 2
  have m7 : w.cell? ⟨MR, 7, none⟩ = some v4 := hmb.cell 7
  have hcv := conv22_9 hv4
  have hne : (([45, 45] ++ [] : Bs) == [45, 45]) = true := rfl
  generalize ([45, 45] ++ [] : Bs) = fr at hcv hne
  clear hmb hv1 hv2 hv3 hv4
  go_enter Tryz.func35, Tryz.ntmps35
  go_wp2_with fail
  refine errNew_any.mono ?_
  rintro e w' ⟨rfl, rfl⟩
  go_wp2
  go_ret2
  exact ⟨rfl, _, rfl⟩

def NilPost (w : World) (e : Ending) (w' : World) : Prop := NxEnd 2 e w' ∧ Chg [] w w'

theorem nil_end {B : Nat} {g : Nat → Addr} {w : World} (hg : Glb B g w) (s : ByteArray) : NilPost w (.returned (.tuple #[.pointer none, erv ⟨w.heap.size, 0, none⟩])) (w.alloc (.cells #[.string s] 120)) := by
  have hc : Chg [] w (w.alloc (.cells #[.string s] 120)) := (Chg.refl [] w).alloc _
  have hg2 := hg.chg hc (by simp)
  have hle := hg.le
  refine ⟨⟨_, rfl, neq_erv _, end_err hg2 ⟨_, _, Blk.new w _ _⟩ (fun e => ?_)⟩, hc⟩
  have := (hg.err 0 (by omega)).2
  rw [← e] at this
  simp at this; omega

set_option maxRecDepth 100000 in
set_option maxHeartbeats 1000000 in
theorem nextRawNil_any {B : Nat} {g : Nat → Addr} {S : List Nat} {w : World} {MR : Nat} {h : Hs} {nl : Bs} {parts : Nat} (hg : Glb B g w) (hm : MRS S w MR h [] nl (.pointer none) parts) :
    Calls Tryz.prog 17 #[.pointer (some ⟨MR, 0, none⟩)] w (NilPost w) := by
  have hr := Lib.hid (nextNil_any hm true); clear hm
  have hg := Lib.hid (fun s => nil_end hg s)
  go_enter Tryz.func17, Tryz.ntmps17
  go_wp2_with (first | (go_at_call 36; refine (maxHdr_any _).mono ?_; rintro e w' ⟨rfl, rfl⟩) | fail)
  refine hr.out.mono ?_
  rintro e w' ⟨rfl, s, rfl⟩
  go_wp2
  go_ret2
  exact hg.out s

set_option maxRecDepth 100000 in
set_option maxHeartbeats 1000000 in
theorem nextPartNil_any {B : Nat} {g : Nat → Addr} {S : List Nat} {w : World} {MR : Nat} {h : Hs} {nl : Bs} {parts : Nat} (hg : Glb B g w) (hm : MRS S w MR h [] nl (.pointer none) parts) :
    Calls Tryz.prog 16 #[.pointer (some ⟨MR, 0, none⟩)] w (NilPost w) := by
  have hr := Lib.hid (nextNil_any hm false); clear hm
  have hg := Lib.hid (fun s => nil_end hg s)
  go_enter Tryz.func16, Tryz.ntmps16
  go_wp2_with (first | (go_at_call 36; refine (maxHdr_any _).mono ?_; rintro e w' ⟨rfl, rfl⟩) | fail)
  refine hr.out.mono ?_
  rintro e w' ⟨rfl, s, rfl⟩
  go_wp2
  go_ret2
  exact hg.out s

set_option maxRecDepth 100000 in
set_option maxHeartbeats 4000000 in
theorem skipped_any {B : Nat} {g : Nat → Addr} {w : World} {v wv : Value} {rem bd : Bs} {which : List Bool} {PS : List PartB} {HOW : Nat} (hg : Glb B g w) (h : BS [] w v rem) (hw : BoolS w wv which) (hl : rem.length ≤ 3000) (hbd : bd.length ≤ 100) (hwl : which.length ≤ 50)
    (hres : specB bd true which rem = some (PS, HOW)) : Calls Tryz.prog 9 #[v, .string (bstr bd), wv] w (ImPost w PS HOW) := by
  have HR := Lib.hid hres; clear hres
  obtain ⟨a, c, rfl, hlc, _⟩ := id h
  have HG := Lib.hid (And.intro hg h); clear hg h
  obtain ⟨aw, cw, rfl, hwc, _⟩ := id hw
  have HWS := Lib.hid hw; clear hw
  have hd1 : decide ((rem.length : Int) > 100000) = false := by simp; omega
  have hd2 : decide ((bd.length : Int) > 1000) = false := by simp; omega
  go_enter Tryz.func9, Tryz.ntmps9
  go_wp2_with (first | (go_at_call 15; refine bytesNew_any.mono ?_; rintro e w1 ⟨rfl, rfl⟩) | fail)
  refine (newReader_any hbd).mono ?_
  rintro e w2 hp
  obtain ⟨hh, MR, S, rfl, hLS⟩ := LS.start HG.out.1 HG.out.2 hl hp
  clear hp
  by_cases hbe : bd = []
  · subst hbe
    have hr0 : ([], 2) = (PS, HOW) := by have := HR.out; unfold specB at this; simpa using this
    cases hr0
    have hnx := Lib.hid (nextRawNil_any (hLS.glb (Chg.refl _ _)) hLS.nst.1)
    have H2 := Lib.hid hLS; clear hLS
    go_wp2
    refine wp_loop_rounds 1 ?_; rw [rounds_succ]
    go_wp2_with fail
    refine hnx.out.mono ?_
    rintro e w3 ⟨⟨er, rfl, hne, hend⟩, hc3⟩
    have hd := H2.out.done hc3.none
    have HE := Lib.hid (And.intro hend hd); clear hend hd hc3
    rcases hne with ⟨q, rfl⟩ | ⟨s, rfl⟩ | ⟨q, rfl⟩
    all_goals
      try unfold perr at *
      go_wp2_with (first | (go_at_call 18; refine HE.out.1.mono ?_; rintro e w4 ⟨rfl, hc4⟩) | fail)
      go_ret2
      exact ⟨_, rfl, HE.out.2.1.chg hc4, HE.out.2.2.trans hc4⟩
  · have hres : readB bd true which 200 [] [13, 10] rem = some (PS, HOW) := by have := HR.out; unfold specB at this; rwa [if_neg hbe] at this
    have HRES := Lib.hid hres; clear hres HR
    have HBE := Lib.hid hbe; clear hbe
    have H2 := Lib.hid hLS; clear hLS
    go_wp2
    go_loopg [9] 200 (fun k v wr => ∃ (S C : List Nat) (nl : Bs) (cur : Value) (qs : List QP) (ps : List PartB) (n : Nat) (rem' : Bs) (a c : _), v = .slice a n c ∧ n ≤ c ∧ Hid (LS B g hh S C w wr MR bd nl cur v qs ps n rem') ∧ Hid (readB bd true which (200 - n) ps nl rem' = some (PS, HOW)) ∧ n ≤ 200 ∧ 200 - n ≤ k)
    case atStart => exact ⟨_, _, _, _, _, _, 0, _, _, _, rfl, Nat.le_refl _, H2.out, HRES.out, by omega, by omega⟩
    case round =>
      clear H2 HRES
      obtain ⟨S, C, nl, cur, qs, ps, n, rem', ag, cg, rfl, hcg, hLS, hrb, hn200, hk⟩ := hrel
      have hLS : LS B g hh S C w wr MR bd nl cur (.slice ag n cg) qs ps n rem' := hLS
      have hrb : readB bd true which (200 - n) ps nl rem' = some (PS, HOW) := hrb
      by_cases hlt : n < 200
      · obtain ⟨kk, hkk⟩ : ∃ kk, 200 - n = kk + 1 := ⟨199 - n, by omega⟩
        rw [hkk] at hrb
        have hnx := Lib.hid (nextRaw2_any hLS.nst HBE.out hLS.nlp.1 hLS.nlp.2 (by omega) hLS.c1 hLS.c2)
        have HL := Lib.hid hLS
        have HRB := Lib.hid hrb; clear hLS hrb
        go_wp2_with fail
        refine hnx.out.mono ?_
        rintro e w1 hq
        obtain ⟨hc1, hor⟩ := hq.split (HL.out.glb hq.1) HL.out.len
        clear hq hnx
        rcases hor with ⟨how, ⟨er, rfl, hne, hend⟩, hrd⟩ | ⟨fs, rem2, nl', PP, M, gs, SB, m, ns, base, rfl, hP1, hP2, hms, hfs, hpt, hnl', hrd⟩
        · have hrr := HRB.out
          rw [hrd] at hrr
          simp only [Option.some.injEq, Prod.mk.injEq] at hrr
          obtain ⟨rfl, rfl⟩ := hrr
          have hd := HL.out.done hc1
          have HE := Lib.hid (And.intro hend hd); clear hend hd hc1 hrd
          rcases hne with ⟨q, rfl⟩ | ⟨s, rfl⟩ | ⟨q, rfl⟩
          all_goals
            try unfold perr at *
            go_wp2_with (first | (go_at_call 18; refine HE.out.1.mono ?_; rintro e w4 ⟨rfl, hc4⟩) | fail)
            go_ret2
            exact ⟨_, rfl, HE.out.2.1.chg hc4, HE.out.2.2.trans hc4⟩
        · have hrr := HRB.out
          rw [hrd] at hrr
          simp only [Bool.not_true, Bool.false_and, Bool.false_eq_true, if_false] at hrr
          have hws1 := HWS.out.below (HL.out.done hc1).2
          have hMlt := hms.map.lt
          have hmb := hms.mb.1
          obtain ⟨pn, pt, pf, pe, hpb, _⟩ := hpt.ex
          have H1 := Lib.hid (And.intro hc1 (And.intro hms (And.intro hfs (And.intro hpt (And.intro hpb hrr))))); clear hc1 hms hpt hpb hrd hrr hfs HRB
          obtain ⟨sk, hsk⟩ : ∃ sk, sk = skipB which n := ⟨_, rfl⟩
          have HSK := Lib.hid hsk; clear hsk
          go_upto_region 9 with (fail)
          go_cut [52] (fun s52 wz => s52 = .bool sk ∧ wz = w1)
          case first =>
            by_cases hw0 : which.length = 0
            · have hz : decide ((which.length : Int) > 0) = false := decide_eq_false (by omega)
              have hz3 : ¬ (0 < which.length) := by omega
              have hz4 : decide (0 < which.length) = false := decide_eq_false (by omega)
              have hz2 : ((which.length : Int) == 0) = true := by rw [beq_iff_eq]; omega
              have hsk0 : sk = false := by rw [HSK.out]; unfold skipB; simp [hw0]
              have HW0 := Lib.hid hw0; clear hw0
              subst hsk0
              go_wp2
              go_meet
              exact ⟨rfl, rfl⟩
            · have hz : decide ((which.length : Int) > 0) = true := decide_eq_true (by omega)
              have hz2 : ((which.length : Int) == 0) = false := by rw [beq_eq_false_iff_ne]; omega
              obtain ⟨_, bw, ow, rfl, _, hcw⟩ := bool_at hws1 (by omega)
              have hmod : n % which.length < which.length := Nat.mod_lt _ (by omega)
              have hcb := hcw (n % which.length) hmod
              have hsk0 : sk = which.getD (n % which.length) false := by rw [HSK.out]; unfold skipB; simp [hw0]
              generalize which.getD (n % which.length) false = bb at *
              subst hsk0
              have hpos : 0 < which.length := by omega
              have HW0 := Lib.hid hw0; clear hw0 hcw hws1
              cases sk with
              | true =>
                go_wp2
                go_meet
                exact ⟨rfl, rfl⟩
              | false =>
                go_wp2
                go_meet
                exact ⟨rfl, rfl⟩
          case rest =>
            obtain ⟨rfl, hwz⟩ := hcut
            have hwz2 := hwz.symm
            subst hwz2
            clear hws1
            cases sk with
            | true =>
              have hfl := Lib.hid (fields_any H1.out.2.1 H1.out.2.2.2.2.1 rfl H1.out.2.2.1.2)
              unfold FlPost at hfl
              go_wp2_with fail
              refine hfl.out.mono ?_
              rintro e w3 ⟨fv, gs', rfl, hF, hff, hc3⟩
              obtain ⟨af, cf, rfl, hcf⟩ := own_form hF.row
              clear hfl
              have hfs3 : ∀ S', (∀ x ∈ S', x < w1.heap.size) → FldS S' w3 (.slice af gs'.length cf) fs := fun S' hS' => by
                have h1 := FldS.of_own (S := S') hF (fun x hx hm => by have := (hF.blk x hm).1; have := hS' x hx; omega)
                rw [hff, H1.out.2.2.1.1] at h1
                exact h1
              obtain ⟨_, hcwq, hrow⟩ := HL.out.mid H1.out.1 hP1 hc3.none (.cells #[.slice af gs'.length cf, .slice none 0 0, .int .i64 ((0 : Nat) : Int)] 44)
              have hbase := hcwq.size
              have hce := cell_three w3 (.slice af gs'.length cf) (.slice none 0 0) (.int .i64 ((0 : Nat) : Int)) 44
              have hn6 : n + 1 ≤ 1000000 := by omega
              have H3 := Lib.hid (And.intro hc3 hfs3); clear hF hff hc3 hfs3 hcwq
              go_wp2_with (first
                | (at_builtin; (refine wpl_app2 rfl (.tmp 53) (.tmp 57) 23 rfl w.heap.size 44 (.agg #[.slice none 0 0, .slice none 0 0, .int .i64 0]) 3 56 (by kernel_rfl) info44 rfl (by decide) (by decide) (.slice ag n cg) n (cellsP qs) rfl hrow ⟨w3.heap.size, 0, none⟩ 1 1 [.slice af gs'.length cf, .slice none 0 0, .int .i64 ((0 : Nat) : Int)] rfl rfl hce (three_one _ _ _ rfl rfl rfl) (by decide) hn6 hbase ?_; intro v6 w6 hown6 hgrow6 hwh6; obtain ⟨g6, c6, rfl, hw6⟩ := hwh6; have H6 := Lib.hid (And.intro hown6 (And.intro hgrow6 hw6)); clear hown6 hgrow6 hw6 hrow hce hbase))
                | fail)
              obtain ⟨S6, hL6⟩ := HL.out.more (q := (.slice af gs'.length cf, .slice none 0 0, 0)) (p := ⟨fs, [], 0⟩) H1.out.1 ⟨hP1, by omega⟩ H3.out.1.none (H1.out.2.2.2.1.quiet H3.out.1) hnl' ⟨fun S' hS' => ⟨H3.out.2 S' hS', BS.nil _ _⟩, rfl⟩ H6.out.2.1 H6.out.1 ⟨g6, c6, rfl, H6.out.2.2⟩
              have hr6 := H1.out.2.2.2.2.2
              rw [← HSK.out] at hr6
              simp only [if_true] at hr6
              have H7 := Lib.hid (And.intro hL6 hr6); clear hL6 hr6
              go_roundg (200 - (n + 1))
              case measure => omega
              case rel =>
                refine ⟨S6, PP :: C, nl', _, _, _, n + 1, _, _, c6, rfl, ?_, H7.out.1, ?_, by omega, Nat.le_refl _⟩
                · obtain ⟨_, _, h9⟩ := own_form H6.out.1; cases h9.1; exact h9.2
                · rw [show 200 - (n + 1) = kk from by omega]; exact H7.out.2
            | false =>
              have hwo := Lib.hid (whole_any H1.out.2.2.2.1 hnl' (bodyB_le _ _ _).1 (bodyB_le _ _ _).2 H1.out.2.1 H1.out.2.2.1.2)
              unfold WhPost at hwo
              go_wp2_with fail
              refine hwo.out.mono ?_
              rintro e w3 ⟨fv, uv, rfl, ⟨af, nf, cf, rfl⟩, ⟨au, nu, cu, rfl⟩, hfq, hc3, hp3⟩
              clear hwo
              obtain ⟨bb, hbb⟩ : ∃ bb, bb = bodyB bd nl' rem2 := ⟨_, rfl⟩
              rw [← hbb] at hfq hp3
              have HBB := Lib.hid hbb
              rw [← hbb]
              clear hbb
              obtain ⟨_, hcwq, hrow⟩ := HL.out.mid H1.out.1 hP1 hc3 (.cells #[.slice af nf cf, .slice au nu cu, .int .i64 ((bb.2 : Nat) : Int)] 44)
              have hbase := hcwq.size
              have hce := cell_three w3 (.slice af nf cf) (.slice au nu cu) (.int .i64 ((bb.2 : Nat) : Int)) 44
              have hn6 : n + 1 ≤ 1000000 := by omega
              have H3 := Lib.hid (And.intro hc3 (And.intro hfq hp3)); clear hc3 hfq hp3 hcwq
              go_wp2_with (first
                | (at_builtin; (refine wpl_app2 rfl (.tmp 59) (.tmp 62) 23 rfl w.heap.size 44 (.agg #[.slice none 0 0, .slice none 0 0, .int .i64 0]) 3 56 (by kernel_rfl) info44 rfl (by decide) (by decide) (.slice ag n cg) n (cellsP qs) rfl hrow ⟨w3.heap.size, 0, none⟩ 1 1 [.slice af nf cf, .slice au nu cu, .int .i64 ((bb.2 : Nat) : Int)] rfl rfl hce (three_one _ _ _ rfl rfl rfl) (by decide) hn6 hbase ?_; intro v6 w6 hown6 hgrow6 hwh6; obtain ⟨g6, c6, rfl, hw6⟩ := hwh6; have H6 := Lib.hid (And.intro hown6 (And.intro hgrow6 hw6)); clear hown6 hgrow6 hw6 hrow hce hbase))
                | fail)
              obtain ⟨S6, hL6⟩ := HL.out.more (q := (.slice af nf cf, .slice au nu cu, bb.2)) (p := ⟨fs, rem2.take bb.1, bb.2⟩) H1.out.1 ⟨hP1, by omega⟩ H3.out.1 H3.out.2.2 hnl' ⟨fun S' hS' => by have := H3.out.2.1 S' hS'; rw [H1.out.2.2.1.1] at this; exact this, rfl⟩ H6.out.2.1 H6.out.1 ⟨g6, c6, rfl, H6.out.2.2⟩
              have hr6 := H1.out.2.2.2.2.2
              rw [← HSK.out, ← HBB.out] at hr6
              simp only [Bool.false_eq_true, if_false] at hr6
              have H7 := Lib.hid (And.intro hL6 hr6); clear hL6 hr6
              go_roundg (200 - (n + 1))
              case measure => omega
              case rel =>
                refine ⟨S6, PP :: C, nl', _, _, _, n + 1, _, _, c6, rfl, ?_, H7.out.1, ?_, by omega, Nat.le_refl _⟩
                · obtain ⟨_, _, h9⟩ := own_form H6.out.1; cases h9.1; exact h9.2
                · rw [show 200 - (n + 1) = kk from by omega]; exact H7.out.2
      · have hn2 : n = 200 := by omega
        subst hn2
        have hd := hLS.done (Chg.refl _ _)
        have hr0 : (ps, 3) = (PS, HOW) := by
          have := hrb
          rw [Nat.sub_self, readB] at this
          simpa using this
        cases hr0
        have HD := Lib.hid hd; clear hd hLS hrb
        go_wp2
        go_ret2
        exact ⟨_, rfl, HD.out.1, HD.out.2⟩
end Go.Proofs.YtekndndhgkdggaaGreatDoor

namespace Go.Proofs.YtekndndhgkdggaaGreatDoor
open Go.RowKit

theorem skipB_nil (n : Nat) : skipB [] n = false := by unfold skipB; simp
theorem some_ite {α : Type} {c : Bool} {x : Option α} {y : α} (h : (if c then none else x) = some y) : x = some y := by
  cases c
  · simpa using h
  · simp at h

set_option maxRecDepth 100000 in
set_option maxHeartbeats 8000000 in
theorem read_any {B : Nat} {g : Nat → Addr} {w : World} {v : Value} {rem bd : Bs} {PS : List PartB} {HOW : Nat} (raw : Bool) (hg : Glb B g w) (h : BS [] w v rem) (hl : rem.length ≤ 3000) (hbd : bd.length ≤ 100)
    (hres : specB bd raw [] rem = some (PS, HOW)) (hnp : raw = false → ∀ B g h rem, (∀ fs rem', hdrB rem = .ok fs rem' → printableB fs = false) → NpC B g h false rem) : Calls Tryz.prog 6 #[v, .string (bstr bd), .bool raw] w (ImPost w PS HOW) := by
  have HNP := Lib.hid hnp; clear hnp
  have HR := Lib.hid hres; clear hres
  obtain ⟨a, c, rfl, hlc, _⟩ := id h
  have HG := Lib.hid (And.intro hg h); clear hg h
  have hd1 : decide ((rem.length : Int) > 100000) = false := by simp; omega
  have hd2 : decide ((bd.length : Int) > 1000) = false := by simp; omega
  go_enter Tryz.func6, Tryz.ntmps6
  go_wp2_with (first | (go_at_call 15; refine bytesNew_any.mono ?_; rintro e w1 ⟨rfl, rfl⟩) | fail)
  refine (newReader_any hbd).mono ?_
  rintro e w2 hp
  obtain ⟨hh, MR, S, rfl, hLS⟩ := LS.start HG.out.1 HG.out.2 hl hp
  clear hp
  by_cases hbe : bd = []
  · subst hbe
    have hr0 : ([], 2) = (PS, HOW) := by have := HR.out; unfold specB at this; simpa using this
    cases hr0
    have hnx := Lib.hid (And.intro (nextRawNil_any (hLS.glb (Chg.refl _ _)) hLS.nst.1) (nextPartNil_any (hLS.glb (Chg.refl _ _)) hLS.nst.1))
    have H2 := Lib.hid hLS; clear hLS
    go_wp2
    refine wp_loop_rounds 1 ?_; rw [rounds_succ]
    cases raw
    all_goals
      go_wp2_with fail
      first
        | refine hnx.out.1.mono ?_
        | refine hnx.out.2.mono ?_
      rintro e w3 ⟨⟨er, rfl, hne, hend⟩, hc3⟩
      have hd := H2.out.done hc3.none
      have HE := Lib.hid (And.intro hend hd); clear hend hd hc3
      rcases hne with ⟨q, rfl⟩ | ⟨s, rfl⟩ | ⟨q, rfl⟩
      all_goals
        try unfold perr at *
        go_wp2_with (first | (go_at_call 18; refine HE.out.1.mono ?_; rintro e w4 ⟨rfl, hc4⟩) | fail)
        go_ret2
        exact ⟨_, rfl, HE.out.2.1.chg hc4, HE.out.2.2.trans hc4⟩
  · have hres : readB bd raw [] 200 [] [13, 10] rem = some (PS, HOW) := by have := HR.out; unfold specB at this; rwa [if_neg hbe] at this
    have HRES := Lib.hid hres; clear hres HR
    have HBE := Lib.hid hbe; clear hbe
    have H2 := Lib.hid hLS; clear hLS
    go_wp2
    go_loopg [9] 200 (fun k v wr => ∃ (S C : List Nat) (nl : Bs) (cur : Value) (qs : List QP) (ps : List PartB) (n : Nat) (rem' : Bs) (a c : _), v = .slice a n c ∧ n ≤ c ∧ Hid (LS B g hh S C w wr MR bd nl cur v qs ps n rem') ∧ Hid (readB bd raw [] (200 - n) ps nl rem' = some (PS, HOW)) ∧ n ≤ 200 ∧ 200 - n ≤ k)
    case atStart => exact ⟨_, _, _, _, _, _, 0, _, _, _, rfl, Nat.le_refl _, H2.out, HRES.out, by omega, by omega⟩
    case round =>
      clear H2 HRES
      obtain ⟨S, C, nl, cur, qs, ps, n, rem', ag, cg, rfl, hcg, hLS, hrb, hn200, hk⟩ := hrel
      have hLS : LS B g hh S C w wr MR bd nl cur (.slice ag n cg) qs ps n rem' := hLS
      have hrb : readB bd raw [] (200 - n) ps nl rem' = some (PS, HOW) := hrb
      by_cases hlt : n < 200
      · obtain ⟨kk, hkk⟩ : ∃ kk, 200 - n = kk + 1 := ⟨199 - n, by omega⟩
        rw [hkk] at hrb
        have hnn : raw = false → (nextB bd n false nl rem').1 = true → NpC B g hh false (nextB bd n false nl rem').2.2.1 := fun hraw hn1 => HNP.out hraw B g hh _ (fun fs rem'' hh2 => by
          have h3 := hrb
          rw [readB_succ, hLS.len, if_pos hn1, hh2, hraw] at h3
          cases hp : printableB fs with
          | false => rfl
          | true => simp [hp] at h3)
        obtain ⟨F, hF⟩ : ∃ F : Nat, F = if raw then 17 else 16 := ⟨_, rfl⟩
        have hcall : Calls Tryz.prog F #[.pointer (some ⟨MR, 0, none⟩)] wr (NxPost B g hh S C MR bd n wr (nextB bd n false nl rem')) := by
          cases raw with
          | true => rw [hF]; exact nextRaw2_any hLS.nst HBE.out hLS.nlp.1 hLS.nlp.2 (by omega) hLS.c1 hLS.c2
          | false => rw [hF]; exact nextPart2_any hLS.nst HBE.out hLS.nlp.1 hLS.nlp.2 (by omega) (hnn rfl) hLS.c1 hLS.c2
        have HF := Lib.hid hF
        have hnx := Lib.hid hcall; clear hF hcall hnn
        have HL := Lib.hid hLS
        have HRB := Lib.hid hrb; clear hLS hrb
        go_upto_if 33 with (fail)
        go_cut [10] (fun s10 wz => s10 = .func (.func F) #[.pointer (some ⟨MR, 0, none⟩)] #[] ∧ wz = wr)
        case first =>
          cases raw with
          | true =>
            go_wp2
            go_meet
            exact ⟨by rw [HF.out]; rfl, rfl⟩
          | false =>
            go_wp2
            go_meet
            exact ⟨by rw [HF.out]; rfl, rfl⟩
        case rest =>
        obtain ⟨rfl, hwz⟩ := hcut
        have hwz2 := hwz.symm
        subst hwz2
        cases raw
        all_goals
          have hF2 := HF.out
          simp only [Bool.false_eq_true, if_true, if_false] at hF2
          subst hF2
          go_wp2_with fail
          refine hnx.out.mono ?_
          rintro e w1 hq
          obtain ⟨hc1, hor⟩ := hq.split (HL.out.glb hq.1) HL.out.len
          clear hq hnx
          rcases hor with ⟨how, ⟨er, rfl, hne, hend⟩, hrd⟩ | ⟨fs, rem2, nl', PP, M, gs, SB, m, ns, base, rfl, hP1, hP2, hms, hfs, hpt, hnl', hrd⟩
          · have hrr := HRB.out
            rw [hrd] at hrr
            simp only [Option.some.injEq, Prod.mk.injEq] at hrr
            obtain ⟨rfl, rfl⟩ := hrr
            have hd := HL.out.done hc1
            have HE := Lib.hid (And.intro hend hd); clear hend hd hc1 hrd
            rcases hne with ⟨q, rfl⟩ | ⟨s, rfl⟩ | ⟨q, rfl⟩
            all_goals
              try unfold perr at *
              go_wp2_with (first | (go_at_call 18; refine HE.out.1.mono ?_; rintro e w4 ⟨rfl, hc4⟩) | fail)
              go_ret2
              exact ⟨_, rfl, HE.out.2.1.chg hc4, HE.out.2.2.trans hc4⟩
          · have hrr := HRB.out
            rw [hrd] at hrr
            have hrr := some_ite hrr
            have hMlt := hms.map.lt
            have hmb := hms.mb.1
            obtain ⟨pn, pt, pf, pe, hpb, _⟩ := hpt.ex
            have H1 := Lib.hid (And.intro hc1 (And.intro hms (And.intro hfs (And.intro hpt (And.intro hpb hrr))))); clear hc1 hms hpt hpb hrd hrr hfs HRB
            have hwo := Lib.hid (whole_any H1.out.2.2.2.1 hnl' (bodyB_le _ _ _).1 (bodyB_le _ _ _).2 H1.out.2.1 H1.out.2.2.1.2)
            unfold WhPost at hwo
            go_wp2_with fail
            refine hwo.out.mono ?_
            rintro e w3 ⟨fv, uv, rfl, ⟨af, nf, cf, rfl⟩, ⟨au, nu, cu, rfl⟩, hfq, hc3, hp3⟩
            clear hwo
            obtain ⟨bb, hbb⟩ : ∃ bb, bb = bodyB bd nl' rem2 := ⟨_, rfl⟩
            rw [← hbb] at hfq hp3
            have HBB := Lib.hid hbb
            rw [← hbb]
            clear hbb
            obtain ⟨_, hcwq, hrow⟩ := HL.out.mid H1.out.1 hP1 hc3 (.cells #[.slice af nf cf, .slice au nu cu, .int .i64 ((bb.2 : Nat) : Int)] 44)
            have hbase := hcwq.size
            have hce := cell_three w3 (.slice af nf cf) (.slice au nu cu) (.int .i64 ((bb.2 : Nat) : Int)) 44
            have hn6 : n + 1 ≤ 1000000 := by omega
            have H3 := Lib.hid (And.intro hc3 (And.intro hfq hp3)); clear hc3 hfq hp3 hcwq
            go_wp2_with (first
              | (at_builtin; (refine wpl_app2 rfl (.tmp 46) (.tmp 49) 23 rfl w.heap.size 44 (.agg #[.slice none 0 0, .slice none 0 0, .int .i64 0]) 3 56 (by kernel_rfl) info44 rfl (by decide) (by decide) (.slice ag n cg) n (cellsP qs) rfl hrow ⟨w3.heap.size, 0, none⟩ 1 1 [.slice af nf cf, .slice au nu cu, .int .i64 ((bb.2 : Nat) : Int)] rfl rfl hce (three_one _ _ _ rfl rfl rfl) (by decide) hn6 hbase ?_; intro v6 w6 hown6 hgrow6 hwh6; obtain ⟨g6, c6, rfl, hw6⟩ := hwh6; have H6 := Lib.hid (And.intro hown6 (And.intro hgrow6 hw6)); clear hown6 hgrow6 hw6 hrow hce hbase))
              | fail)
            obtain ⟨S6, hL6⟩ := HL.out.more (q := (.slice af nf cf, .slice au nu cu, bb.2)) (p := ⟨fs, rem2.take bb.1, bb.2⟩) H1.out.1 ⟨hP1, by omega⟩ H3.out.1 H3.out.2.2 hnl' ⟨fun S' hS' => by have := H3.out.2.1 S' hS'; rw [H1.out.2.2.1.1] at this; exact this, rfl⟩ H6.out.2.1 H6.out.1 ⟨g6, c6, rfl, H6.out.2.2⟩
            have hr6 := H1.out.2.2.2.2.2
            rw [← HBB.out] at hr6
            simp only [skipB_nil, Bool.false_eq_true, if_false] at hr6
            have H7 := Lib.hid (And.intro hL6 hr6); clear hL6 hr6
            go_roundg (200 - (n + 1))
            case measure => omega
            case rel =>
              refine ⟨S6, PP :: C, nl', _, _, _, n + 1, _, _, c6, rfl, ?_, H7.out.1, ?_, by omega, Nat.le_refl _⟩
              · obtain ⟨_, _, h9⟩ := own_form H6.out.1; cases h9.1; exact h9.2
              · rw [show 200 - (n + 1) = kk from by omega]; exact H7.out.2
      · have hn2 : n = 200 := by omega
        subst hn2
        have hd := hLS.done (Chg.refl _ _)
        have hr0 : (ps, 3) = (PS, HOW) := by
          have := hrb
          rw [Nat.sub_self, readB] at this
          simpa using this
        cases hr0
        have HD := Lib.hid hd; clear hd hLS hrb
        go_wp2
        go_ret2
        exact ⟨_, rfl, HD.out.1, HD.out.2⟩
end Go.Proofs.YtekndndhgkdggaaGreatDoor

namespace Go.Proofs.YtekndndhgkdggaaGreatDoor
open Go.RowKit

theorem putB_cnt (fs : Flds) (k v : Bs) (N : Nat) (h : ∀ f ∈ fs, f.2.length ≤ N) : ∀ f ∈ putB fs k v, f.2.length ≤ N + 1 := by
  induction fs with
  | nil => intro f hf; simp [putB] at hf; subst hf; simp
  | cons g r ih =>
    intro f hf
    have hr := ih (fun f hf => h f (by simp [hf]))
    have hg := h g (by simp)
    unfold putB at hf
    split at hf
    · rcases List.mem_cons.1 hf with rfl | hf
      · omega
      · exact hr f hf
    · split at hf
      · rcases List.mem_cons.1 hf with rfl | hf
        · simp; omega
        · have := h f (by simp [hf]); omega
      · rcases List.mem_cons.1 hf with rfl | hf
        · simp
        · rcases List.mem_cons.1 hf with rfl | hf
          · omega
          · have := h f (by simp [hf]); omega

theorem hdrLoop_cnt (fs : Flds) (rem : Bs) : ∀ N fs' r, hdrLoopB fs rem = .ok fs' r → (∀ f ∈ fs, f.2.length ≤ N) → ∀ f ∈ fs', f.2.length ≤ N + rem.length := by
  induction hm : rem.length using Nat.strongRecOn generalizing fs rem with
  | _ n ih =>
    intro N fs' r hr h
    subst hm
    rw [hdr_step] at hr
    cases hl : lineB rem with
    | done r0 => rw [hl] at hr; cases hr; intro f hf; have := h f hf; omega
    | early => rw [hl] at hr; cases hr
    | wrong => rw [hl] at hr; cases hr
    | field k v r0 =>
      rw [hl] at hr
      have hlt := lineB_lt hl
      have := ih r0.length hlt (putB fs k v) r0 rfl (N + 1) fs' r hr (putB_cnt fs k v N h)
      intro f hf
      have := this f hf
      omega
theorem hdr_cnt {rem : Bs} {fs' : Flds} {r : Bs} (h : hdrB rem = .ok fs' r) : ∀ f ∈ fs', f.2.length ≤ rem.length := by
  cases hb : hdBl rem with
  | true => rw [hdrB_true hb] at h; cases h
  | false => rw [hdrB_false hb] at h; have := hdrLoop_cnt [] rem 0 fs' r h (by simp); simpa using this

def SmP (p : PartB) : Prop := p.fields.length ≤ 100000 ∧ p.body.length ≤ 100000 ∧ ∀ f ∈ p.fields, f.2.length ≤ 100000

theorem readB_small (bd : Bs) (raw : Bool) (which : List Bool) (k : Nat) : ∀ (out : List PartB) (nl rem : Bs) (ps : List PartB) (how : Nat), readB bd raw which k out nl rem = some (ps, how) → rem.length ≤ 3000 → 0 < nl.length ∧ nl.length ≤ 2 → (∀ p ∈ out, SmP p) → ps.length ≤ out.length + k ∧ ∀ p ∈ ps, SmP p := by
  induction k with
  | zero =>
    intro out nl rem ps how h hl hn ho
    rw [readB] at h
    cases h
    exact ⟨Nat.le_refl _, ho⟩
  | succ k ih =>
    intro out nl rem ps how h hl hn ho
    rw [readB_succ] at h
    have hnn := nextB_nl bd out.length false nl rem hn
    generalize nextB bd out.length false nl rem = t at *
    split at h
    · split at h
      · cases h; exact ⟨by omega, ho⟩
      · cases h; exact ⟨by omega, ho⟩
      · rename_i fs rem1 hh
        have h := some_ite h
        have h1 := (hdr_ne hh).2
        have h2 := hdr_count hh
        have h3 := hdr_cnt hh
        have := ih _ _ _ ps how h (by simp; omega) hnn.1 (fun p hp => by
          rcases List.mem_append.1 hp with hp | hp
          · exact ho p hp
          · simp only [List.mem_singleton] at hp
            subst hp
            split
            · exact ⟨by simp only; omega, by simp, fun f hf => by have := h3 f hf; omega⟩
            · exact ⟨by simp only; omega, by simp; omega, fun f hf => by have := h3 f hf; omega⟩)
        refine ⟨?_, this.2⟩
        have := this.1
        simp at this; omega
    · cases h; exact ⟨by omega, ho⟩

theorem specB_small {bd : Bs} {raw : Bool} {which : List Bool} {b : Bs} {ps : List PartB} {how : Nat} (h : specB bd raw which b = some (ps, how)) (hl : b.length ≤ 3000) : SmallP ps := by
  unfold specB at h
  split at h
  · cases h; exact ⟨by simp, by simp⟩
  · have := readB_small bd raw which 200 [] [13, 10] b ps how h hl (by simp) (by simp)
    exact ⟨by have := this.1; simp at this; omega, this.2⟩

def aliveB : Bs := [45, 45, 97, 13, 10, 13, 10, 98, 13, 10, 45, 45, 97, 45, 45]

theorem alive_spec : specB [97] true [] aliveB = some ([⟨[], [98], 0⟩], 0) := by
  have h1 : nextB [97] 0 false [13, 10] aliveB = (true, 0, [13, 10, 98, 13, 10, 45, 45, 97, 45, 45], [13, 10]) := by
    rw [nextB_line (by decide), if_pos (by decide)]; rfl
  have h2 : hdrB [13, 10, 98, 13, 10, 45, 45, 97, 45, 45] = .ok [] [98, 13, 10, 45, 45, 97, 45, 45] := by
    rw [hdrB_false (by decide), hdr_step, lineB_done (r := [98, 13, 10, 45, 45, 97, 45, 45]) (by rfl)]; rfl
  have h3 : bodyB [97] [13, 10] [98, 13, 10, 45, 45, 97, 45, 45] = (1, 0) := by
    have h4 : srchB [98, 13, 10, 45, 45, 97, 45, 45] ([13, 10] ++ [45, 45] ++ [97]) 0 0 = (true, 1) := by
      rw [srchB, dif_pos (by decide), if_neg (by decide), srchB, dif_pos (by decide), if_pos (by decide), if_pos (by decide)]
    unfold bodyB
    simp only
    rw [if_neg (by decide), show (if begB [98, 13, 10, 45, 45, 97, 45, 45] ([45, 45] ++ [97]) = true then ([45, 45] ++ [97] : Bs).length else 0) = 0 from by decide, h4]
  have h5 : nextB [97] 1 false [13, 10] [13, 10, 45, 45, 97, 45, 45] = (false, 0, [], [13, 10]) := by
    rw [nextB_line (by decide), if_neg (by decide), if_neg (by decide), if_neg (by decide), if_neg (by decide), if_pos (by decide), nextB_end (by decide)]; rfl
  unfold specB
  rw [if_neg (by decide), readB_succ]
  simp only [List.length_nil, h1, if_true, h2, Bool.not_true, Bool.false_and, Bool.false_eq_true, if_false, h3]
  rw [readB_succ]
  simp only [List.nil_append, List.length_cons, List.length_nil]
  rw [show ([98, 13, 10, 45, 45, 97, 45, 45] : Bs).drop 1 = [13, 10, 45, 45, 97, 45, 45] from rfl, h5]
  rfl
end Go.Proofs.YtekndndhgkdggaaGreatDoor

namespace Go.Proofs.YtekndndhgkdggaaGreatDoor
open Go.RowKit

set_option maxRecDepth 100000 in
theorem lit_alive (w : World) : ∃ W1, (convert 22 22 (.slice (some ⟨w.heap.size, 0, none⟩) 15 15)).run Tryz.prog (w.alloc (.cells (aliveB.map bv).toArray 5)) = .ok (.slice (some ⟨w.heap.size, 0, none⟩) 15 15) W1 ∧ Chg [] w W1 ∧ BS [] W1 (.slice (some ⟨w.heap.size, 0, none⟩) 15 15) aliveB := by
  refine ⟨_, Lib.run_convert_bytes_const (P := Tryz.prog) w 22 5 (aliveB.map bv).toArray 15 15 (by kernel_rfl) (by kernel_rfl), (Chg.refl _ w).alloc _, ?_⟩
  refine BS.of_seg ⟨by simp, fun i hi => ?_⟩ rfl (Nat.le_refl _) (by simp)
  have hh : (w.alloc (.cells (aliveB.map bv).toArray 5 ((aliveB.map bv).toArray.size, (aliveB.map bv).toArray.size + 1))).heap[w.heap.size]? = some (.cells (aliveB.map bv).toArray 5 ((aliveB.map bv).toArray.size, (aliveB.map bv).toArray.size + 1)) := by show (w.heap.push _)[w.heap.size]? = _; simp
  have hc : (w.alloc (.cells (aliveB.map bv).toArray 5 ((aliveB.map bv).toArray.size, (aliveB.map bv).toArray.size + 1))).cell? ⟨w.heap.size, 0 + i, none⟩ = (aliveB.map bv)[i]? := by simp only [World.cell?, hh]; simp
  refine hc.trans ?_
  rw [List.getElem?_map]
  simp [List.getD, List.getElem?_eq_getElem hi]

set_option maxRecDepth 100000 in
set_option maxHeartbeats 2000000 in
theorem alive_any {B : Nat} {g : Nat → Addr} {w : World} (hg : Glb B g w) : Calls Tryz.prog 8 #[] w (TruePost w) := by
  obtain ⟨W1, hcv, hcw, hbs⟩ := lit_alive w
  have hcv : (convert 22 22 (.slice (some ⟨w.heap.size, 0, none⟩) 15 15)).run Tryz.prog (w.alloc (.cells #[.int .u8 45, .int .u8 45, .int .u8 97, .int .u8 13, .int .u8 10, .int .u8 13, .int .u8 10, .int .u8 98, .int .u8 13, .int .u8 10, .int .u8 45, .int .u8 45, .int .u8 97, .int .u8 45, .int .u8 45] 5)) = .ok (.slice (some ⟨w.heap.size, 0, none⟩) 15 15) W1 := hcv
  have hrd := Lib.hid (read_any true (hg.chg hcw (by simp)) hbs (by decide) (by decide) alive_spec (fun h => by cases h))
  have HC := Lib.hid hcw; clear hcw hbs hg
  go_enter Tryz.func8, Tryz.ntmps8
  go_wp2_with fail
  refine hrd.out.mono ?_
  rintro e w2 ⟨v, rfl, hps, hc2⟩
  obtain ⟨a, c, rfl, hac, _⟩ := id hps
  obtain ⟨b, rfl, hbl, hcells⟩ := hps.at_.2.2 (by simp)
  obtain ⟨h1, u, p0, p1, p2, _, hu⟩ := hcells 0 (by simp)
  have p1 : w2.cell? ⟨b, 1, none⟩ = some u := p1
  have hu : BS [] w2 u [98] := hu
  have hcvu := conv22_9 hu
  have hcf := Lib.hid (HC.out.trans hc2)
  clear hps hcells p0 p2 hc2 hu
  simp only [List.length_cons, List.length_nil] at *
  go_wp2

  go_ret
  exact ⟨rfl, hcf.out⟩
end Go.Proofs.YtekndndhgkdggaaGreatDoor
