/- textproto's header. A part's header is read. -/
import Derived.Test.YtekndndhgkdggaaGreatDoorR14
import Derived.Deep.OwnRows
namespace Go.Proofs.YtekndndhgkdggaaGreatDoor
open Go.RowKit

def RdhPost (B : Nat) (g : Nat → Addr) (h : Hs) (TP : Nat) (w : World) (rem : Bs) (e : Ending) (w' : World) : Prop :=
  Chg (TP :: h.all) w w' ∧
  match hdrB rem with
  | .ok fs rem' => ∃ M gs SB n ns, e = .returned (.tuple #[.map (some M), .nilIface]) ∧ MapS w.heap.size SB ns w' M n gs ∧ (fsOf gs = fs ∧ n ≤ 3000) ∧ (SB < w.heap.size → ns = 0) ∧ ∃ r lb lr, InS B g h w' r rem' .nilIface lb lr
  | .early => ∃ v, e = .returned (.tuple #[v, erv (g 0)])
  | .wrong => ∃ v er, e = .returned (.tuple #[v, er]) ∧ ((∃ s, er = perr s) ∨ er = erv (g 12))

def RowS (w wz : World) (SB : Nat) (v : Value) : Prop := StS SB 0 wz v ∧ Chg [] w wz ∧ SB < wz.heap.size ∧ (SB < w.heap.size → SB = 0 ∧ ∃ a, v = .slice a 0 0)

def PkPost (B : Nat) (g : Nat → Addr) (h : Hs) (w : World) (rem : Bs) (e : Ending) (w' : World) : Prop :=
  ∃ v ev, e = .returned (.tuple #[v, ev]) ∧ Chg h.all w w' ∧ (∃ r lb lr, InS B g h w' r rem .nilIface lb lr) ∧
    ((rem = [] ∧ ev = erv (g 0)) ∨ (ev = .nilIface ∧ ∃ c r b o cc, rem = c :: r ∧ v = .slice (some ⟨b, o, none⟩) 1 cc ∧ w'.cell? ⟨b, o, none⟩ = some (bv c)))

theorem peek_one {B : Nat} {g : Nat → Addr} {h : Hs} {w : World} {r : Nat} {rem : Bs} {lb lr : Int} (hs : InS B g h w r rem .nilIface lb lr) : Calls Tryz.prog 98 #[.pointer (some ⟨h.BR, 0, none⟩), .int .i64 1] w (PkPost B g h w rem) := by
  cases rem with
  | nil =>
    refine (peek_out hs 1 (by simp) (by omega)).mono ?_
    rintro e w' ⟨rfl, hc, hin⟩
    exact ⟨_, _, rfl, hc, ⟨_, _, _, hin⟩, .inl ⟨rfl, rfl⟩⟩
  | cons c r' =>
    refine (peek_in hs 1 (by simp)).mono ?_
    rintro e w' ⟨rfl, hc, hin⟩
    exact ⟨_, _, rfl, hc.mono (by unfold Hs.all; simp), ⟨_, _, _, hin⟩, .inr ⟨rfl, c, r', _, _, _, rfl, rfl, by simpa using hin.seg.cell 0 (by simp)⟩⟩

theorem made_size (z : Value) (n : Nat) : (madeCells #[z] n).size = n := by
  simp [madeCells]

set_option maxRecDepth 100000 in
set_option maxHeartbeats 8000000 in
theorem readHdr_any {B : Nat} {g : Nat → Addr} {h : Hs} {w : World} {r : Nat} {rem : Bs} {lb lr : Int} {TP : Nat} (hs : InS B g h w r rem .nilIface lb lr) (ht : Blk w TP (tpc h (.slice none 0 0)) 174) (hn : TP ∉ h.all) (hTB : B ≤ TP) :
    Calls Tryz.prog 96 #[.pointer (some ⟨TP, 0, none⟩), .int .i64 10485760, .int .i64 10000] w (RdhPost B g h TP w rem) := by
  have hl := hs.lt
  have hrem : rem.length ≤ 3000 := by omega
  have hup := Lib.hid (upcoming_any hs ht hn)
  unfold UpPost at hup
  have F : CtF B h TP w.heap.size w := ⟨hn, ⟨hTB, ht.lt⟩, fun x hx => by
    unfold Hs.all at hx
    simp at hx
    rcases hx with rfl | rfl | rfl | rfl
    · obtain ⟨_, _, _, _, hb, _⟩ := hs.rd; exact hb.lt
    · obtain ⟨_, hb, _⟩ := hs.st; exact hb.lt
    · exact hs.br.lt
    · obtain ⟨_, _, hb, _⟩ := hs.u; exact hb.lt, Nat.le_refl _⟩
  have hB0 : 0 < B := by have := hs.gl.lo; omega
  have HF := Lib.hid (And.intro F (And.intro ht hB0)); clear F ht hs hB0
  have hmk := fun (kk : Nat) (hk : kk ≤ 1000) => run_make_row' (P := Tryz.prog) 59 9 (.string ByteArray.empty) 16 (by kernel_rfl) info9 rfl .i64 .i64 kk (by omega) (by omega)
  have hmm : ∀ (kk : Nat) wy, (Instr.makeMap 90 (some (.int .i64 (kk : Int)))).run Tryz.prog wy = .ok (.map (some wy.heap.size)) (wy.alloc (.map #[] 0)) := fun kk wy => by
    simp [Instr.makeMap, run_underlying map90, asInt, newObj, Result.andThen]
    rfl
  go_enter Tryz.func96, Tryz.ntmps96
  go_wp2_with fail
  refine hup.out.mono ?_
  rintro e w1 ⟨⟨kk, hkk, rfl⟩, hc1, r1, lb1, lr1, hin1⟩
  have H1 := Lib.hid (And.intro hc1 hin1); clear hc1 hin1 hup
  have hmk1 := hmk kk hkk; clear hmk
  go_upto_if 31 with (fail)
  go_cut [8, 9] (fun s8 s9 wz => ∃ k SB, s9 = .int .i64 ((k : Nat) : Int) ∧ k ≤ 1000 ∧ Hid (RowS w1 wz SB s8))
  case first =>
    by_cases hk0 : kk = 0
    · subst hk0
      go_wp2
      go_meet
      refine ⟨0, 0, rfl, by omega, ⟨⟨none, 0, rfl, by omega, by omega⟩, Chg.refl _ _, ?_, fun _ => ⟨rfl, _, rfl⟩⟩⟩
      have := H1.out.2.gl.le; have := H1.out.2.gl.lo; omega
    · have hkp : decide ((kk : Int) > 0) = true := by simp; omega
      have hkq : decide ((kk : Int) > 1000) = false := by simp; omega
      go_wp2
      go_meet
      refine ⟨kk, w1.heap.size, rfl, hkk, ⟨⟨_, kk, rfl, hkk, fun _ => ⟨rfl, _, Blk.new _ _ _, by rw [made_size]; omega⟩⟩, (Chg.refl _ _).alloc _, by simp, fun h => by omega⟩⟩
  case rest =>
    obtain ⟨k, SB, rfl, hk, hrow⟩ := hcut
    obtain ⟨hst0, hch0, hSBl, hSBz⟩ := hrow
    obtain ⟨hc1, hin1⟩ := H1.out
    obtain ⟨F, ht, hB0⟩ := HF.out
    have hcm : Chg [] w1 (wc.alloc (.map #[] 0)) := hch0.alloc _
    have hinm := hin1.draw hcm (by simp)
    have htm := (ht.chg hc1 F.tn).chg hcm (by simp)
    have hcw : Chg (TP :: (h.all ++ [])) w (wc.alloc (.map #[] 0)) := (hc1.mono (by intro x hx; simp [hx])).trans hcm.none
    have hSBn : SB ∉ TP :: h.all := by
      intro hm
      have hlt : SB < w.heap.size := by
        rcases List.mem_cons.1 hm with rfl | hm
        · exact F.tb.2
        · exact F.hb _ hm
      have h0 := (hSBz (Nat.lt_of_lt_of_le hlt hc1.size)).1
      subst h0
      rcases List.mem_cons.1 hm with h1 | hm
      · have := F.tb.1; omega
      · have ho := hin1.ok
        have := ho.b1; have := ho.b2; have := ho.b3; have := ho.b4
        unfold Hs.all at hm; simp at hm; omega
    have hHL : HL B g h TP SB w (wc.alloc (.map #[] 0)) wc.heap.size 0 [] 0 u8 (.slice none 0 0) 0 [] rem := by
      refine ⟨⟨⟨_, _, _, hinm⟩, htm, ⟨rfl, .inl ⟨rfl, rfl⟩⟩, hcw, by intro k hk; cases hk⟩, MapS.nil wc (Nat.le_trans hc1.size hch0.size) hSBl, hst0.chg ((Chg.refl [] _).alloc _) (by simp), (by intro k hk; cases hk), hSBn, by simp; omega, fun h1 => ⟨rfl, (hSBz (Nat.lt_of_lt_of_le h1 hc1.size)).2⟩⟩
    have hpk := Lib.hid (peek_one hinm)
    obtain ⟨t0, t1, t2, f2⟩ := tp_cells htm
    obtain ⟨M, hM⟩ : ∃ M, M = wc.heap.size := ⟨_, rfl⟩
    rw [← hM] at hHL
    have hmm' : ∀ (kk : Nat), (Instr.makeMap 90 (some (.int .i64 (kk : Int)))).run Tryz.prog wc = .ok (.map (some M)) (wc.alloc (.map #[] 0)) := fun kk => by rw [hM]; exact hmm kk wc
    have H2 := Lib.hid hHL; clear hHL hcm hinm htm hcw hSBn hst0 hch0 hSBl hSBz hc1 hin1 F ht hB0 H1 hM hmm
    generalize wc.alloc (.map #[] 0) = wm at *
    go_wp2_with fail
    unfold PkPost at hpk
    refine hpk.out.mono ?_
    rintro e w2 ⟨pv, ev, rfl, hc2, hin2, hcase⟩
    have hct2 : CtS B g h TP w.heap.size (Value.slice none 0 0).ownBlock.toList wm w2 (.slice none 0 0) 0 [] rem := by
      refine CtS.move (wz := wm) (rem := rem) ?_ ?_ hc2 hin2
      · exact ⟨H2.out.ct.ins, H2.out.ct.tp, H2.out.ct.own, Chg.refl _ _, by intro k hk; cases hk⟩
      · have F := HF.out.1
        exact ⟨F.tn, F.tb, F.hb, H2.out.ct.chg.size⟩
    have hHL2 := H2.out.line HF.out.1 hct2
    have hcase := Lib.hid hcase
    have H3 := Lib.hid hHL2; clear H2 hct2 hHL2 hc2 hin2 hpk t0 t1 t2 f2
    go_upto_region 11 with (fail)
    go_cut [59] (fun s59 wz => s59 = .bool (hdBl rem) ∧ wz = w2)
    case first =>
      rcases hcase.out with ⟨rfl, rfl⟩ | ⟨rfl, c, rr, b, o, cc, rfl, rfl, hcell⟩
      · go_wp2
        go_meet
        exact ⟨rfl, rfl⟩
      · have hb : hdBl (c :: rr) = blankB c := rfl
        by_cases h32 : c = 32
        · subst h32
          go_wp2
          go_meet
          exact ⟨rfl, rfl⟩
        · have hn32 : ((c.toNat : Int) == 32) = false := bv_ne 32 _ rfl h32
          by_cases h9 : c = 9
          · subst h9
            go_wp2
            go_meet
            exact ⟨rfl, rfl⟩
          · have hn9 : ((c.toNat : Int) == 9) = false := bv_ne 9 _ rfl h9
            have hbf : blankB c = false := by unfold blankB; simp [h32, h9]
            have HB := Lib.hid (hb.trans hbf); clear hb hbf h32 h9
            go_wp2
            go_meet
            exact ⟨by rw [HB.out], rfl⟩
    case rest =>
      obtain ⟨rfl, rfl⟩ := hcut
      clear hcase
      cases hbl : hdBl rem with
      | true =>
        have hwr := Lib.hid (hdrB_true hbl)
        obtain ⟨rz, lbz, lrz, hinz⟩ := H3.out.ct.ins
        have hrl := Lib.hid (readLineSlice_any 80 hinz H3.out.ct.tp HF.out.1.tn)
        have hhd : ∃ p, headLineB rem = some p := by
          cases rem with
          | nil => cases hbl
          | cons c r => exact ⟨_, by unfold headLineB; rw [if_neg (by simp)]⟩
        obtain ⟨p, hp⟩ := hhd
        unfold RlsPost at hrl
        rw [hp] at hrl
        clear hinz hbl hp
        go_wp2_with fail
        refine hrl.out.mono ?_
        rintro e w3 ⟨hc3, r3, lb3, lr3, hin3, hm⟩
        have hfin : Hid (Chg (TP :: h.all) w w3) := by
          have := (H3.out.ct.chg.mono (S' := TP :: h.all) (by intro x hx; simpa using hx))
          exact this.trans (hc3.mono (by intro x hx; simp [hx]))
        clear hrl hc3 hin3
        rcases hm with ⟨_, _, rfl⟩ | ⟨_, r0, c0, rfl, _⟩
        · go_wp2
          go_ret2
          unfold RdhPost
          rw [hwr.out]
          exact ⟨hfin, _, _, rfl, .inr rfl⟩
        · go_wp2
          go_ret2
          unfold RdhPost
          rw [hwr.out]
          exact ⟨hfin, _, _, rfl, .inl ⟨_, rfl⟩⟩
      | false =>
        have hwr := Lib.hid (hdrB_false hbl)
        clear hbl
        go_wp2
        go_loopg [1, 2, 8] rem.length (fun k s1 s2 s8 wr => ∃ (X Y : Int) (gs : List GF) (n ns nz : Nat) (bz : Value) (lz rem1 : Bs), s1 = .int .i64 X ∧ s2 = .int .i64 Y ∧ Hid (HL B g h TP SB w wr M n gs ns s8 bz nz lz rem1) ∧ Hid (hdrLoopB (fsOf gs) rem1 = hdrB rem) ∧ rem1.length ≤ k ∧ rem1.length ≤ 3000 ∧ n + rem1.length ≤ 3000 ∧ 100000 + 300 * (rem1.length : Int) ≤ X ∧ X ≤ 10485760 ∧ 5000 + (rem1.length : Int) ≤ Y ∧ Y ≤ 10000)
        case atStart => exact ⟨_, _, [], 0, 0, 0, _, [], rem, rfl, rfl, H3.out, hwr.out.symm, Nat.le_refl _, hrem, by omega, by omega, by omega, by omega, by omega⟩
        case round =>
          clear H3 hwr
          obtain ⟨X, Y, gs, n, ns, nz, bz, lz, rem1, rfl, rfl, hHL, hloop, hgk, hr3, hn3, hX1, hX2, hY1, hY2⟩ := hrel
          have hHL : HL B g h TP SB w wr M n gs ns u8 bz nz lz rem1 := hHL
          obtain ⟨rz, lbz, lrz, hinz⟩ := hHL.ct.ins
          have Fr : CtF B h TP w.heap.size wr := by
            have F := HF.out.1
            exact ⟨F.tn, F.tb, F.hb, hHL.ct.chg.size⟩
          have hcl := Lib.hid (contLine_any X ⟨by omega, by omega⟩ hinz hHL.ct.tp Fr hHL.ct.own)
          have HR := Lib.hid (And.intro hHL hloop); clear hHL hloop hinz Fr
          unfold CtPost at hcl
          obtain ⟨o, ho⟩ : ∃ o, o = headLineB rem1 := ⟨_, rfl⟩
          rw [← ho] at hcl
          have HO := Lib.hid ho; clear ho
          have hdone : ∀ wq, Chg (TP :: (h.all ++ bz.ownBlock.toList)) wr wq → Chg (TP :: h.all) w wq := fun wq hq => by
            have h1 := HR.out.1.ct.chg
            have h2 := HR.out.1.ct.loc
            refine (h1.mono (by intro x hx; simpa using hx)).thn hq (fun x hx => ?_)
            rcases List.mem_cons.1 hx with rfl | hx
            · exact .inl (by simp)
            · rcases List.mem_append.1 hx with hx | hx
              · exact .inl (by simp [hx])
              · simp at hx
                rcases h2 x hx with h3 | h3
                · cases h3
                · exact .inr h3
          have hdone := Lib.hid hdone
          go_wp2_with fail
          refine hcl.out.mono ?_
          rintro e w3 ⟨hc3, hm⟩
          have hc3 := Lib.hid hc3
          clear hcl
          cases o with
          | none =>
            subst hm
            go_wp2
            go_ret2
            unfold RdhPost
            rw [← HR.out.2.out, hdr_step, lineB_none HO.out.symm]
            exact ⟨hdone.out _ hc3.out, _, rfl⟩
          | some p =>
            obtain ⟨pl, p2⟩ := p
            simp only [] at hm
            by_cases hpl : pl = []
            · subst hpl
              simp only [if_true] at hm
              obtain ⟨⟨a9, c9, rfl⟩, hin3⟩ := hm
              have hin3 := Lib.hid hin3
              go_wp2
              go_ret2
              unfold RdhPost
              rw [← HR.out.2.out, hdr_step, lineB_done HO.out.symm]
              refine ⟨hdone.out _ hc3.out, M, gs, SB, n, ns, rfl, ?_, ⟨rfl, by omega⟩, fun h => (HR.out.1.sb.2.2 h).1, hin3.out⟩
              obtain ⟨f1, f2, f3⟩ := HR.out.1.far HF.out.1
              exact HR.out.1.mp.chg hc3.out f1 f3
            · simp only [hpl, if_false] at hm
              by_cases hcc : pl.contains 58 = true
              · have hcc' : (pl.contains 58 = false) = False := by rw [hcc]; simp
                simp only [hcc', if_false] at hm
                have HP := Lib.hid (And.intro hpl hcc); clear hpl hcc hcc'
                obtain ⟨o2, ho2⟩ : ∃ o2, o2 = contB (trimB pl) p2 := ⟨_, rfl⟩
                rw [← ho2] at hm
                have HO2 := Lib.hid ho2; clear ho2
                cases o2 with
                | none =>
                  simp only [] at hm
                  subst hm
                  go_wp2
                  go_ret2
                  unfold RdhPost
                  rw [← HR.out.2.out, hdr_step, lineB_rest HO.out.symm HP.out.1 HP.out.2, ← HO2.out]
                  exact ⟨hdone.out _ hc3.out, _, rfl⟩
                | some q =>
                  obtain ⟨kv, rem2⟩ := q
                  simp only [] at hm
                  obtain ⟨v, r3, lb3, lr3, b3, n3, l3, rfl, hin3, hct3, hwhere⟩ := hm
                  have hkvc : kv.contains 58 = true := contB_contains _ _ (kv, rem2) HO2.out.symm (trimB_contains HP.out.2)
                  have hkvl : kv.length + rem2.length ≤ rem1.length := by
                    have h1 := contB_len _ _ (kv, rem2) HO2.out.symm
                    have h2 := headLine_sum HO.out.symm
                    have h3 := trimB_len pl
                    simp only at h1; omega
                  have hr2 : rem2.length < rem1.length := by
                    have h1 := contB_le _ _ (kv, rem2) HO2.out.symm
                    have h2 := headLineB_lt HO.out.symm
                    simp only at h1 h2; omega
                  have hkne : kv ≠ [] := fun e => by rw [e] at hkvc; cases hkvc
                  have hHL3 := HR.out.1.line HF.out.1 hct3
                  obtain ⟨b, oo, c, cs, T, rfl, hkc, hbk, hsk, hwr⟩ := hHL3.kv HF.out.1 hin3 hwhere hkne
                  obtain ⟨W1, hcv, hcW, hbs1⟩ := lit_one w3 58
                  have hcv : (convert 22 22 (.slice (some ⟨w3.heap.size, 0, none⟩) 1 1)).run Tryz.prog (w3.alloc (.cells #[.int .u8 58] 5)) = .ok (.slice (some ⟨w3.heap.size, 0, none⟩) 1 1) W1 := hcv
                  have hcut := Lib.hid (bytesCut_one 58 (BS.of_seg (S := []) (hsk.chg hcW (by simp)) rfl hkc (by simp)) hbs1 (by omega))
                  have hline : hdrB rem = aftL (fsOf gs) (lineD kv rem2) := by
                    rw [← HR.out.2.out, hdr_step, lineB_rest HO.out.symm HP.out.1 HP.out.2, ← HO2.out]; rfl
                  have hHL3 := Lib.hid (And.intro hHL3 (And.intro hbk (And.intro hsk (And.intro hwr (And.intro hcW hline))))); clear hct3 hin3 hwhere hbk hsk hwr hcW hline hbs1
                  have hkz : ((kv.length : Int) == 0) = false := by rw [beq_eq_false_iff_ne]; have := List.length_pos_iff.2 hkne; omega
                  have hix : ∃ k : Nat, idxB 58 kv = (k : Int) := by
                    have h1 := idxB_ge 58 kv
                    have h2 := idx_contains 58 kv
                    have : ¬ idxB 58 kv < 0 := by rw [h2, hkvc]; simp
                    exact ⟨(idxB 58 kv).toNat, by omega⟩
                  obtain ⟨k, hix⟩ := hix
                  obtain ⟨hbf, haf, hkl⟩ := idx_before kv k hix
                  have HK := Lib.hid (And.intro hkne (And.intro hbf (And.intro haf hkvc))); clear hkne hbf haf hkvc
                  unfold CutPost at hcut
                  rw [hix] at hcut
                  clear hix
                  go_wp2_with fail
                  refine hcut.out.mono ?_
                  rintro e w4 ⟨⟨nq, rfl⟩, hm⟩
                  clear hcut
                  rcases hm with ⟨hbad, _⟩ | ⟨k', hkk', _, rfl⟩
                  · omega
                  have hkk2 : k' = k := by omega
                  subst hkk2
                  clear hkk'
                  obtain ⟨hHL3, hbk, hsk, hwr, hcW, hline⟩ := hHL3.out
                  have hc4 : Chg [] w3 (W1.drewN nq) := hcW.drewN nq
                  have hb4 := hbk.chg hc4 (by simp)
                  have hs4 := hsk.chg hc4 (by simp)
                  have hheld := held_of_seg hb4 (hs4.take k')
                  have hck := Lib.hid (canonKey_any (c := c) hheld (by simp; omega) (by simp; omega))
                  have htk : (kv.take k').length = k' := by simp; omega
                  rw [htk] at hck
                  have H4 := Lib.hid (And.intro hHL3 (And.intro hbk (And.intro hsk (And.intro hwr (And.intro hc4 (And.intro hb4 (And.intro hs4 hline))))))); clear hHL3 hbk hsk hwr hc4 hcW hb4 hs4 hheld hline
                  generalize W1.drewN nq = w4 at *
                  unfold CkPost at hck
                  go_wp2_with fail
                  refine hck.out.mono ?_
                  rintro e w5 ⟨hc5, ⟨l5, hl5, hh5⟩, hkey⟩
                  clear hck
                  have hc35 : Chg [b] w3 w5 := H4.out.2.2.2.2.1.none.trans hc5
                  obtain ⟨lz5, hHL5⟩ := H4.out.2.2.2.1 w5 l5 hc35 hh5 (by omega)
                  have hft := after_key (k := k') H4.out.2.2.2.2.2.1 H4.out.2.2.2.2.2.2.1 hh5 (by omega) (by omega) hkc
                  have hline := H4.out.2.2.2.2.2.2.2
                  have hdone5 : Chg (TP :: h.all) w w5 := by have := hHL5.ct.chg; exact this.mono (by intro x hx; simpa using hx)
                  have H5 := Lib.hid (And.intro hHL5 (And.intro hline hdone5)); clear H4 hc35 hHL5 hline hc5 hh5 hl5 hdone5
                  rw [← HK.out.2.1] at hkey
                  rw [← HK.out.2.2.1] at hft
                  by_cases hbad : beforeB kv = [] ∨ keyB (beforeB kv) = none
                  · rw [if_pos hbad] at hkey
                    obtain ⟨sx, rfl⟩ := hkey
                    have hwr : lineD kv rem2 = .wrong := by
                      unfold lineD
                      rcases hbad with h1 | h1
                      · rw [h1]; rfl
                      · rw [h1]
                    have hfin := Lib.hid (H5.out.2.1.trans (by rw [hwr])); clear hwr hbad hft
                    go_wp2
                    go_ret2
                    unfold RdhPost
                    rw [hfin.out]
                    exact ⟨H5.out.2.2, _, _, rfl, .inl ⟨_, rfl⟩⟩
                  · rw [if_neg hbad] at hkey
                    obtain ⟨K, hK, rfl⟩ := hkey
                    have hbad : beforeB kv ≠ [] ∧ keyB (beforeB kv) ≠ none := ⟨fun e => hbad (.inl e), fun e => hbad (.inr e)⟩
                    have hKl : K.length = (beforeB kv).length := by
                      unfold keyB at hK
                      split at hK
                      · simp only [Option.some.injEq] at hK
                        rw [← hK]
                        split
                        · rfl
                        · exact canonB_len _ _
                      · cases hK
                    have hKne : K ≠ [] := fun e => hbad.1 (List.eq_nil_of_length_eq_zero (by rw [← hKl, e]; rfl))
                    have hab : (beforeB kv).length + 1 + (afterB kv).length = kv.length := by rw [HK.out.2.1, HK.out.2.2.1]; simp; omega
                    have hlD : lineD kv rem2 = if (afterB kv).all valuedB then .field K (dropBl (afterB kv)) rem2 else .wrong := by
                      unfold lineD; rw [hK]; simp only [hKne, if_false]
                    have hline := Lib.hid (H5.out.2.1.trans (by rw [hlD])); clear hlD hbad hK hKne
                    obtain ⟨aft, haft⟩ : ∃ aft, aft = afterB kv := ⟨_, rfl⟩
                    rw [← haft] at hft hab hline
                    rw [← hKl] at hab
                    have hlen5 : kv.length - (k' + 1) = aft.length := by have := hft.len.1; omega
                    rw [hlen5] at hft
                    clear HK haft hKl
                    go_upto_block 2 with (fail)
                    go_cut [] from 71 to 168 (fun wz => wz = w5 ∧ aft.all valuedB = true)
                    case first =>
                      have hfa := Lib.hid hft
                      clear hft
                      have hl3 : aft.length ≤ 3000 := by omega
                      go_wp2
                      go_loop [105] (fun i => ∃ j : Nat, j ≤ aft.length ∧ i = .int .i64 (j : Int) ∧ AllB valuedB aft j) (fun i => aft.length - (intOf i).toNat)
                      case atStart => exact ⟨0, Nat.zero_le _, rfl, AllB.zero _ _⟩
                      case round =>
                        obtain ⟨j, hj, rfl, hall⟩ := hrel
                        by_cases hlt : j < aft.length
                        · obtain ⟨b9, o9, hb9, _, hseg9⟩ := hfa.out.at_ (by omega)
                          rw [hb9]
                          have hcell := hseg9.cell j hlt
                          generalize hd : aft.getD j 0 = d at hcell
                          have HD := Lib.hid (And.intro hd hb9); clear hd hb9 hseg9
                          cases hvd : valuedB d with
                          | false =>
                            have HV := Lib.hid hvd; clear hvd
                            go_wp2_with fail
                            refine (validValue_any d _).mono ?_
                            rintro e w' ⟨rfl, rfl⟩
                            rw [HV.out]
                            go_wp2
                            go_ret2
                            unfold RdhPost
                            rw [hline.out, not_all (k := j) hlt (by rw [HD.out.1]; exact HV.out)]
                            exact ⟨H5.out.2.2, _, _, rfl, .inl ⟨_, rfl⟩⟩
                          | true =>
                            have HV := Lib.hid hvd; clear hvd
                            go_wp2_with fail
                            refine (validValue_any d _).mono ?_
                            rintro e w' ⟨rfl, rfl⟩
                            rw [HV.out]
                            go_wp2
                            go_round
                            case rel => exact ⟨j + 1, by omega, by go_num, hall.succ (by rw [HD.out.1]; exact HV.out)⟩
                            case measure => simp [intOf]; omega
                        · have hje : j = aft.length := by omega
                          subst hje
                          have hA := Lib.hid (AllB.all hall); clear hall
                          go_wp2
                          go_meet
                          exact ⟨rfl, hA.out⟩
                    case rest =>
                      obtain ⟨hwc, hval⟩ := hcut
                      subst hwc
                      have hline2 : hdrB rem = hdrLoopB (putB (fsOf gs) K (dropBl aft)) rem2 := by rw [hline.out, hval]; rfl
                      have hl3 : aft.length ≤ 3000 := by omega
                      have htl := Lib.hid (trimLeft_any hft (by omega))
                      have hVl : (dropBl aft).length ≤ aft.length := dropBl_len aft
                      generalize dropBl aft = V at htl hline2 hVl
                      have HLN := Lib.hid hline2; clear hline2 hline hval hft
                      obtain ⟨Y1, hY1⟩ : ∃ Y1, Y1 = Y - 1 := ⟨_, rfl⟩
                      have hwY : IntKind.i64.wrap (Y - 1) = Y1 := by rw [IntWalk.i64_in _ (by omega)]; omega
                      have hYl : decide (Y1 < 0) = false := by simp; omega
                      obtain ⟨kl, hkl2⟩ : ∃ kl, kl = K.length := ⟨_, rfl⟩
                      obtain ⟨vl, hvl⟩ : ∃ vl, vl = V.length := ⟨_, rfl⟩
                      obtain ⟨X1, hX1'⟩ : ∃ X1, X1 = X - (K.length : Int) := ⟨_, rfl⟩
                      obtain ⟨X2, hX2'⟩ : ∃ X2, X2 = X1 - 200 := ⟨_, rfl⟩
                      obtain ⟨X3, hX3'⟩ : ∃ X3, X3 = X2 - (V.length : Int) := ⟨_, rfl⟩
                      obtain ⟨X4, hX4'⟩ : ∃ X4, X4 = X - (V.length : Int) := ⟨_, rfl⟩
                      have hwX1 : IntKind.i64.wrap (X - (K.length : Int)) = X1 := by rw [IntWalk.i64_in _ (by omega)]; omega
                      have hwX2 : IntKind.i64.wrap (X1 - 200) = X2 := by rw [IntWalk.i64_in _ (by omega)]; omega
                      have hwX3 : IntKind.i64.wrap (X2 - (V.length : Int)) = X3 := by rw [IntWalk.i64_in _ (by omega)]; omega
                      have hwX4 : IntKind.i64.wrap (X - (V.length : Int)) = X4 := by rw [IntWalk.i64_in _ (by omega)]; omega
                      have hwk : IntKind.i64.wrap (K.length : Int) = (K.length : Int) := IntWalk.i64_in _ (by omega)
                      have hwv : IntKind.i64.wrap (V.length : Int) = (V.length : Int) := IntWalk.i64_in _ (by omega)
                      have hl3' : decide (X3 < 0) = false := by simp; omega
                      have hl4' : decide (X4 < 0) = false := by simp; omega
                      have hnum : 100000 + 300 * (rem2.length : Int) ≤ X3 ∧ X3 ≤ X4 ∧ X4 ≤ 10485760 ∧ 5000 + (rem2.length : Int) ≤ Y1 ∧ Y1 ≤ 10000 := by omega
                      have HN1 := Lib.hid (And.intro hX1' (And.intro hX2' (And.intro hX3' (And.intro hX4' (And.intro hY1 (And.intro hkl2 hvl)))))); clear hX1' hX2' hX3' hX4' hY1 hkl2 hvl
                      have hnil59 : ∀ W, (binOp .eql 59 (.slice none 0 0) (.slice none 0 0)).run Tryz.prog W = .ok (.bool true) W := fun W => by kernel_rfl
                      obtain ⟨i9, hi9, hz0, hz1, hz2⟩ := info_parts info9
                      have HI9 := Lib.hid (And.intro hi9 (And.intro hz0 (And.intro hz1 hz2))); clear hi9 hz0 hz1 hz2
                      have hKl3 : K.length ≤ 100000 := by omega
                      have hn4 : n ≤ 100000 := by omega
                      go_wp2_with fail
                      refine htl.out.mono ?_
                      rintro e w6 ⟨⟨u, rfl, hu⟩, hc6⟩
                      have hcv6 := conv22_9 hu
                      have hHL6 := H5.out.1.quiet HF.out.1 hc6
                      have hlk := hHL6.mp.map.look K hKl3
                      clear htl hc6 hu
                      obtain ⟨sa, sm, rfl, hsm, hst⟩ := hHL6.st
                      cases hany : gs.any (fun f => f.1 == K) with
                      | false =>
                        have HAN := Lib.hid hany
                        rw [(valOf_not hany).1] at hlk
                        unfold nilV at hlk
                        clear hany
                        cases sm with
                        | zero =>
                          clear hst
                          have hHL6 := Lib.hid hHL6
                          have hk00 : w6.heap.size ≤ (w6.alloc (.cells #[.string (bstr V)] 9)).heap.size := by simp
                          have hcst : ∀ j x, ([.string (bstr V)] : List Value)[j]? = some x → (w6.alloc (.cells #[.string (bstr V)] 9)).cell? ((⟨w6.heap.size, 0, none⟩ : Addr).add j) = some x := cell_str w6 V
                          go_wp2_with (at_builtin; (refine wpList_append_grows _ rfl (.tmp 161) (.tmp 163) 59 rfl 9 i9 (.string ByteArray.empty) 1 16 (by kernel_rfl) HI9.out.1 HI9.out.2.1 HI9.out.2.2.1 HI9.out.2.2.2 rfl (by decide) none 0 0 [] rfl (fun _ => ⟨rfl, rfl⟩) rfl (by intro b hb; cases hb) ⟨w6.heap.size, 0, none⟩ 1 1 [.string (bstr V)] rfl rfl hcst (by intro x hx; simp at hx; subst hx; rfl) (by decide) (by unfold maxLen; omega) (by decide) ?_; intro v7 w7 ho7 hg7; have hc7 : Chg [] w6 w7 := ((Chg.refl [] w6).alloc _).grown hg7 (by intro k hk; cases hk); obtain ⟨w8, hp8, hm8, hc8⟩ := (hHL6.out.mp.map.chg hc7 (by simp)).put K V v7 hKl3 hn4; have HFIN := Lib.hid (hHL6.out.putN (K := K) (V := V) HF.out.1 hKl3 hc7 hk00 (by rw [(valOf_not HAN.out).2]; exact ho7) hm8 hc8); clear ho7 hg7 hc7 hm8 hc8))
                          go_roundg rem2.length
                          case measure => omega
                          case rel => exact ⟨X3, Y1, _, n + 1, ns, _, _, _, rem2, rfl, rfl, HFIN.out, by show hdrLoopB (fsOf (putG gs K V _)) rem2 = hdrB rem; rw [putG_fs]; exact HLN.out.symm, Nat.le_refl _, by omega, by omega, by omega, by omega, by omega, by omega⟩
                        | succ m =>
                          obtain ⟨rfl, cs9, hbS, hcs9⟩ := hst (by omega)
                          clear hst
                          have hgt : decide (((m + 1 : Nat) : Int) > 0) = true := by rw [decide_eq_true_eq]; omega
                          have hs1 : ∀ wy, (Instr.slice 59 (.slice (some ⟨SB, ns, none⟩) (m + 1) (m + 1)) none (some (.int .i64 1)) (some (.int .i64 1))).run Tryz.prog wy = .ok (.slice (some ⟨SB, ns, none⟩) 1 1) wy := fun wy => by
                            have := run_slice_hm (P := Tryz.prog) wy 59 (some ⟨SB, ns, none⟩) (m + 1) (m + 1) (by kernel_rfl) .i64 .i64 1 1 (by omega) (by omega) (by omega)
                            rw [this]
                            have hz : (sizeOf (Tryz.prog.elem 59)).run Tryz.prog wy = .ok 1 wy := by kernel_rfl
                            rw [hz]; simp [Result.andThen, sliced, Addr.add]
                          have hs2 : ∀ wy, (Instr.slice 59 (.slice (some ⟨SB, ns, none⟩) (m + 1) (m + 1)) (some (.int .i64 1)) none none).run Tryz.prog wy = .ok (.slice (subA (some ⟨SB, ns, none⟩) (m + 1) 1) m m) wy := fun wy => by
                            have := run_slice_l (P := Tryz.prog) wy 59 (some ⟨SB, ns, none⟩) (m + 1) (m + 1) (by kernel_rfl) .i64 1 (by omega) (by omega)
                            rw [this]
                            have hz : (sizeOf (Tryz.prog.elem 59)).run Tryz.prog wy = .ok 1 wy := by kernel_rfl
                            rw [hz]; simp [Result.andThen, sliced, subA]
                          obtain ⟨v9, hv9⟩ : ∃ v9, v9 = Value.slice (subA (some ⟨SB, ns, none⟩) (m + 1) 1) m m := ⟨_, rfl⟩
                          rw [← hv9] at hs2
                          have HV9 := Lib.hid (And.intro hv9 (And.intro hbS hcs9)); clear hv9 hbS hcs9
                          have hHL6 := Lib.hid hHL6
                          go_upto_region 43 with (fail)
                          go_quiet (fail)
                          have hHL7 := hHL6.out.quiet HF.out.1 ((Chg.refl [] w6).drewN nq)
                          have hbS := HV9.out.2.1.drewN nq
                          clear hlk hcv6 hHL6
                          generalize w6.drewN nq = w7 at *
                          have hmb := hHL7.mp.mb.2
                          obtain ⟨x9, hx9⟩ : ∃ x9, w7.cell? ⟨SB, ns, none⟩ = some x9 := by
                            have hlt : ns < cs9.size := by have := HV9.out.2.2; omega
                            exact ⟨cs9[ns], by rw [hbS.cell]; exact Array.getElem?_eq_getElem hlt⟩
                          have hf9 : w7.frozen? ⟨SB, ns, none⟩ = false := hbS.free ns
                          have hms : MapD (w7.setCell ⟨SB, ns, none⟩ (.string (bstr V))) M n gs := hHL7.mp.map.chg ((Chg.refl [SB] w7).setCell (.inl (by simp)) _) (by simpa using hmb)
                          obtain ⟨w8, hp8, hm8, hc8⟩ := hms.put K V (.slice (some ⟨SB, ns, none⟩) 1 1) hKl3 hn4
                          have HFIN := Lib.hid (hHL7.putS (K := K) (V := V) HF.out.1 hKl3 rfl HAN.out HV9.out.1 hm8 hc8)
                          clear hHL7 hbS hms hm8 hc8 hmb
                          go_wp2
                          go_roundg rem2.length
                          case measure => omega
                          case rel => exact ⟨X3, Y1, _, n + 1, ns + 1, _, _, _, rem2, rfl, rfl, HFIN.out, by show hdrLoopB (fsOf (putG gs K V _)) rem2 = hdrB rem; rw [putG_fs]; exact HLN.out.symm, Nat.le_refl _, by omega, by omega, by omega, by omega, by omega, by omega⟩
                      | true =>
                        have HAN := Lib.hid hany
                        obtain ⟨f0, hf0, hfk, hfv, hfs⟩ := valOf_mem hany
                        have hval := (hHL6.mp.vals f0 hf0).2
                        have hsml := (hHL6.mp.small f0 hf0).2
                        rw [← hfs] at hsml
                        rw [← hfv, ← hfs] at hval
                        have hHL6 := Lib.hid hHL6
                        clear hany hst hf0 hfk hfv hfs
                        rcases hval with ⟨i0, s0, hi0, hvv, hvs, hlt0, hcell0⟩ | ⟨hown0, hk0⟩
                        · rw [hvv] at hlk
                          have heq9 : ∀ W, (binOp .eql 59 (.slice (some ⟨SB, i0, none⟩) 1 1) (.slice none 0 0)).run Tryz.prog W = .ok (.bool false) W := fun W => by kernel_rfl
                          have HVS := Lib.hid (And.intro hvs hvv); clear hvs hvv
                          have hk00 : w6.heap.size ≤ (w6.alloc (.cells #[.string (bstr V)] 9)).heap.size := by simp
                          have hcst : ∀ j x, ([.string (bstr V)] : List Value)[j]? = some x → (w6.alloc (.cells #[.string (bstr V)] 9)).cell? ((⟨w6.heap.size, 0, none⟩ : Addr).add j) = some x := cell_str w6 V
                          have hold : ∀ b, (some ⟨SB, i0, none⟩ : Option Addr) = some b → ∀ j x, ([sv s0] : List Value)[j]? = some x → (w6.alloc (.cells #[.string (bstr V)] 9)).cell? (b.add j) = some x := by
                            intro b hb j x hj
                            cases hb
                            have : j = 0 := by
                              rcases j with _ | j
                              · rfl
                              · simp at hj
                            subst this
                            rw [Addr.add_at, Nat.add_zero, ((Chg.refl [] w6).alloc _).cell (p := ⟨SB, i0, none⟩) hlt0 (by simp), hcell0]
                            simpa using hj
                          go_wp2_with (at_builtin; (refine wpList_append_grows _ rfl (.tmp 161) (.tmp 163) 59 rfl 9 i9 (.string ByteArray.empty) 1 16 (by kernel_rfl) HI9.out.1 HI9.out.2.1 HI9.out.2.2.1 HI9.out.2.2.2 rfl (by decide) (some ⟨SB, i0, none⟩) 1 1 [sv s0] rfl (by intro h; cases h) rfl hold ⟨w6.heap.size, 0, none⟩ 1 1 [.string (bstr V)] rfl rfl hcst (by intro x hx; simp at hx; subst hx; rfl) (by decide) (by unfold maxLen; omega) (by decide) ?_; intro v7 w7 ho7 hg7; have hc7 : Chg [] w6 w7 := ((Chg.refl [] w6).alloc _).grown hg7 (by intro k hk; cases hk); obtain ⟨w8, hp8, hm8, hc8⟩ := (hHL6.out.mp.map.chg hc7 (by simp)).put K V v7 hKl3 hn4; have HFIN := Lib.hid (hHL6.out.putN (K := K) (V := V) HF.out.1 hKl3 hc7 hk00 (by rw [HVS.out.1]; exact ho7) hm8 hc8); clear ho7 hg7 hc7 hm8 hc8))
                          go_roundg rem2.length
                          case measure => omega
                          case rel => exact ⟨X4, Y1, _, n + 1, ns, _, _, _, rem2, rfl, rfl, HFIN.out, by show hdrLoopB (fsOf (putG gs K V _)) rem2 = hdrB rem; rw [putG_fs]; exact HLN.out.symm, Nat.le_refl _, by omega, by omega, by omega, by omega, by omega, by omega⟩
                        · obtain ⟨k0, hk0, hk0S⟩ := hk0
                          obtain ⟨a0, c0', hv0, _⟩ := own_form hown0
                          obtain ⟨q0, rfl⟩ : ∃ q0, a0 = some ⟨q0, 0, none⟩ := by
                            rcases hown0.2 with ⟨h1, h2⟩ | ⟨q, cc, cur, h1, _⟩
                            · rw [h1] at hk0; cases hk0
                            · rw [h1] at hv0; cases hv0; exact ⟨_, rfl⟩
                          obtain ⟨nv, hnv⟩ : ∃ nv, nv = (vsOf gs K).length := ⟨_, rfl⟩
                          rw [← hnv] at hv0 hown0
                          have hnv3 : nv ≤ 900000 := by omega
                          rw [hv0] at hlk hown0
                          have hHLa := Lib.hid (hHL6.out.quiet HF.out.1 ((Chg.refl [] w6).alloc (.cells #[.string (bstr V)] 9)))
                          have howna := own_chg hown0 ((Chg.refl [] w6).alloc (.cells #[.string (bstr V)] 9)) (by simp)
                          have hbase : w.heap.size ≤ (w6.alloc (.cells #[.string (bstr V)] 9)).heap.size := hHLa.out.ct.chg.size
                          have heq9 : ∀ W, (binOp .eql 59 (.slice (some ⟨q0, 0, none⟩) nv c0') (.slice none 0 0)).run Tryz.prog W = .ok (.bool false) W := fun W => by kernel_rfl
                          have hcst : ∀ ad, (some ⟨w6.heap.size, 0, none⟩ : Option Addr) = some ad → ∀ j x, ([.string (bstr V)] : List Value)[j]? = some x → (w6.alloc (.cells #[.string (bstr V)] 9)).cell? (ad.add j) = some x := by
                            intro ad had; cases had; exact cell_str w6 V
                          have HVS := Lib.hid (And.intro hv0 (And.intro hk0 (And.intro hk0S hnv))); clear hv0 hk0 hk0S hnv hown0
                          go_wp2_with (at_builtin; (refine wpl_app3 rfl (.tmp 161) (.tmp 163) 59 rfl w.heap.size 9 (.string ByteArray.empty) 1 16 (by kernel_rfl) info9 rfl (by decide) (by decide) (.slice (some ⟨q0, 0, none⟩) nv c0') nv ((vsOf gs K).map sv) rfl howna (some ⟨w6.heap.size, 0, none⟩) 1 1 [.string (bstr V)] rfl rfl (by intro h; cases h) hcst (by intro x hx; simp at hx; subst hx; rfl) (by omega) hbase ?_; intro v7 w7 ho7 hg7 hloc7; have hc7 : Chg [q0] (w6.alloc (.cells #[.string (bstr V)] 9)) w7 := Chg.of_grown hg7; have hMq : M ∉ [q0] := (fun hm => by simp at hm; obtain ⟨f0, hf0, _, hfv, _⟩ := valOf_mem HAN.out; exact hHLa.out.mp.far f0 hf0 (by rw [← hfv, HVS.out.1, hm]; rfl)); obtain ⟨w8, hp8, hm8, hc8⟩ := (hHLa.out.mp.map.chg hc7 hMq).put K V v7 hKl3 hn4; have HFIN := Lib.hid (hHLa.out.putO (K := K) (V := V) HF.out.1 hKl3 HAN.out (by rw [HVS.out.1, ← HVS.out.2.2.2]; exact howna) ⟨k0, HVS.out.2.1, HVS.out.2.2.1⟩ (by rw [HVS.out.1]; exact hg7) (by simp only [List.length_append, ← HVS.out.2.2.2, List.map_append]; exact ho7) (by rw [HVS.out.1]; exact hloc7) hm8 hc8); clear ho7 hg7 hloc7 hc7 hm8 hc8 hMq))
                          go_roundg rem2.length
                          case measure => omega
                          case rel => exact ⟨X4, Y1, _, n + 1, ns, _, _, _, rem2, rfl, rfl, HFIN.out, by show hdrLoopB (fsOf (putG gs K V _)) rem2 = hdrB rem; rw [putG_fs]; exact HLN.out.symm, Nat.le_refl _, by omega, by omega, by omega, by omega, by omega, by omega⟩
              · have hcf : pl.contains 58 = false := by simpa using hcc
                simp only [hcf, if_true] at hm
                obtain ⟨sx, rfl⟩ := hm
                have HP := Lib.hid (And.intro hpl hcf); clear hpl hcf hcc
                go_wp2
                go_ret2
                unfold RdhPost
                rw [← HR.out.2.out, hdr_step, lineB_wrong HO.out.symm HP.out.1 HP.out.2]
                exact ⟨hdone.out _ hc3.out, _, _, rfl, .inl ⟨_, rfl⟩⟩
end Go.Proofs.YtekndndhgkdggaaGreatDoor

namespace Go.Proofs.YtekndndhgkdggaaGreatDoor
open Go.RowKit

set_option maxRecDepth 100000 in
set_option maxHeartbeats 1000000 in
theorem tpNew_any {w : World} (a : Addr) : Calls Tryz.prog 77 #[.pointer (some a)] w fun e w' => e = .returned (.pointer (some ⟨w.heap.size, 0, none⟩)) ∧ w' = w.alloc (.cells #[.pointer (some a), .pointer none, .slice none 0 0] 174) := by
  go_enter Tryz.func77, Tryz.ntmps77
  go_wp2
  go_ret
  exact ⟨rfl, rfl⟩

set_option maxRecDepth 100000 in
set_option maxHeartbeats 1000000 in
theorem hdrLim_any {w : World} {p : Value} {Q : Ending → World → Prop} (h : Calls Tryz.prog 96 #[p, .int .i64 10485760, .int .i64 10000] w fun e w' => (∃ a b, e = .returned (.tuple #[a, b])) ∧ Q e w') : Calls Tryz.prog 89 #[p, .int .i64 10485760, .int .i64 10000] w Q := by
  have h := Lib.hid h
  go_enter Tryz.func89, Tryz.ntmps89
  go_wp2_with fail
  refine h.out.mono ?_
  rintro e w' ⟨⟨a, b, rfl⟩, hq⟩
  have hq := Lib.hid hq
  go_wp2
  exact hq.out
set_option maxRecDepth 100000 in
set_option maxHeartbeats 1000000 in
theorem hdrMp_any {w : World} {p : Value} {Q : Ending → World → Prop} (h : Calls Tryz.prog 96 #[p, .int .i64 10485760, .int .i64 10000] w fun e w' => (∃ a b, e = .returned (.tuple #[a, b])) ∧ Q e w') : Calls Tryz.prog 78 #[p, .int .i64 10485760, .int .i64 10000] w Q := by
  have h2 := Lib.hid (hdrLim_any (Q := fun e w' => (∃ a b, e = .returned (.tuple #[a, b])) ∧ Q e w') (h.mono (fun e w' k => ⟨k.1, k⟩))); clear h
  go_enter Tryz.func78, Tryz.ntmps78
  go_wp2_with fail
  refine h2.out.mono ?_
  rintro e w' ⟨⟨a, b, rfl⟩, hq⟩
  have hq := Lib.hid hq
  go_wp2
  exact hq.out

def ptc0 (MR : Nat) (m : Value) (r : Value) : Array Value :=
  #[m, .pointer (some ⟨MR, 0, none⟩), .string ByteArray.empty, .map none, r, .int .i64 0, .int .i64 0, .nilIface, .nilIface]

def PopPost (B : Nat) (g : Nat → Addr) (h : Hs) (PP MR : Nat) (w : World) (rem : Bs) (e : Ending) (w' : World) : Prop :=
  Chg (PP :: h.all) w w' ∧
  match hdrB rem with
  | .ok fs rem' => e = .returned .nilIface ∧ ∃ M gs SB n ns base, w.heap.size ≤ base ∧ Blk w' PP (ptc0 MR (.map (some M)) .nilIface) 93 ∧ MapS base SB ns w' M n gs ∧ (fsOf gs = fs ∧ n ≤ 3000) ∧ (SB < base → ns = 0) ∧ ∃ r lb lr, InS B g h w' r rem' .nilIface lb lr
  | .early => e = .returned (erv (g 0))
  | .wrong => ∃ er, e = .returned er ∧ ((∃ s, er = perr s) ∨ er = erv (g 5))

set_option maxRecDepth 100000 in
theorem errStr_any {w : World} {a : Addr} {s : ByteArray} (hc : w.cell? a = some (.string s)) : Calls Tryz.prog 145 #[.pointer (some a)] w fun e w' => e = .returned (.string s) ∧ w = w' := by
  have ha : a.add 0 = a := by unfold Addr.add; simp
  go_enter Tryz.func145, Tryz.ntmps145
  go_wp2
  go_ret
  exact ⟨rfl, rfl⟩
set_option maxRecDepth 100000 in
theorem perrStr_any {w : World} {s : ByteArray} : Calls Tryz.prog 173 #[.string s] w fun e w' => e = .returned (.string s) ∧ w = w' := by
  go_enter Tryz.func173, Tryz.ntmps173
  go_wp2
  go_ret
  exact ⟨rfl, rfl⟩

theorem str_ne : ((bstr [69, 79, 70] : ByteArray) == bstr [109, 101, 115, 115, 97, 103, 101, 32, 116, 111, 111, 32, 108, 97, 114, 103, 101]) = false := by
  rfl

set_option maxRecDepth 100000 in
set_option maxHeartbeats 4000000 in
theorem popHdr_any {B : Nat} {g : Nat → Addr} {h : Hs} {w : World} {r : Nat} {rem : Bs} {lb lr : Int} {PP MR : Nat} {m0 : Value} {mcs : Array Value} (hs : InS B g h w r rem .nilIface lb lr) (hb : Blk w PP (ptc0 MR m0 .nilIface) 93) (hm : Blk w MR mcs 81) (hm0 : mcs[0]? = some (.pointer (some ⟨h.BR, 0, none⟩)))
    (hPn : PP ∉ h.all) (hPB : B ≤ PP) :
    Calls Tryz.prog 60 #[.pointer (some ⟨PP, 0, none⟩), .int .i64 10485760, .int .i64 10000] w (PopPost B g h PP MR w rem) := by
  have c1 : w.cell? ⟨PP, 1, none⟩ = some (.pointer (some ⟨MR, 0, none⟩)) := hb.cell 1
  have m0' : w.cell? ⟨MR, 0, none⟩ = some (.pointer (some ⟨h.BR, 0, none⟩)) := by rw [hm.cell]; exact hm0
  have hTP : w.heap.size ∉ h.all := fun hm => by
    unfold Hs.all at hm
    simp at hm
    rcases hm with h1 | h1 | h1 | h1
    · obtain ⟨_, _, _, _, hb, _⟩ := hs.rd; have := hb.lt; omega
    · obtain ⟨_, hb, _⟩ := hs.st; have := hb.lt; omega
    · have := hs.br.lt; omega
    · obtain ⟨_, _, hb, _⟩ := hs.u; have := hb.lt; omega
  have hca : Chg [] w (w.alloc (.cells #[.pointer (some ⟨h.BR, 0, none⟩), .pointer none, .slice none 0 0] 174)) := (Chg.refl [] w).alloc _
  have hsa := hs.draw hca (by simp)
  have htp : Blk (w.alloc (.cells #[.pointer (some ⟨h.BR, 0, none⟩), .pointer none, .slice none 0 0] 174)) w.heap.size (tpc h (.slice none 0 0)) 174 := Blk.new w _ 174
  have hrd := readHdr_any hsa htp hTP (by have := hs.gl.le; exact this)
  have hba := hb.chg hca (by simp)
  have hg := hs.gl
  have hPlt := hb.lt
  have H := Lib.hid (And.intro hs (And.intro hb (And.intro hba (And.intro hca hTP)))); clear hs hb hm hm0 hsa htp hba hTP hca
  have hrd2 := Lib.hid (hdrMp_any (Q := fun e w' => RdhPost B g h w.heap.size (w.alloc (.cells #[.pointer (some ⟨h.BR, 0, none⟩), .pointer none, .slice none 0 0] 174)) rem e w') (hrd.mono (fun e w' k => ⟨by
    obtain ⟨_, k⟩ := k
    cases hh : hdrB rem with
    | ok fs r' => rw [hh] at k; obtain ⟨_, _, _, _, _, rfl, _⟩ := k; exact ⟨_, _, rfl⟩
    | early => rw [hh] at k; obtain ⟨_, rfl⟩ := k; exact ⟨_, _, rfl⟩
    | wrong => rw [hh] at k; obtain ⟨_, _, rfl, _⟩ := k; exact ⟨_, _, rfl⟩, k⟩)))
  clear hrd
  go_enter Tryz.func60, Tryz.ntmps60
  go_wp2_with fail
  refine (tpNew_any _).mono ?_
  rintro e w1 ⟨rfl, rfl⟩
  go_wp2_with fail
  refine hrd2.out.mono ?_
  rintro e w2 ⟨hc2, hk⟩
  have hcw : Chg h.all w w2 := by
    have h1 : Chg (w.heap.size :: h.all) w w2 := H.out.2.2.2.1.none.trans hc2
    exact h1.less (fun x hx => by
      rcases List.mem_cons.1 hx with rfl | hx
      · exact .inr (Nat.le_refl _)
      · exact .inl hx)
  have hb2 := H.out.2.1.chg hcw hPn
  have hPP : Chg (PP :: h.all) w w2 := hcw.mono (by intro x hx; simp [hx])
  have HC := Lib.hid (And.intro hcw (And.intro hb2 hPP)); clear hcw hc2
  have f0 : w2.frozen? ⟨PP, 0, none⟩ = false := hb2.free 0
  have c0 : w2.cell? ⟨PP, 0, none⟩ = some m0 := hb2.cell 0
  have hg2 := hg.chg HC.out.1 (fun x hx => by
    have ho := H.out.1.ok
    have := ho.b1; have := ho.b2; have := ho.b3; have := ho.b4
    unfold Hs.all at hx; simp at hx; omega)
  clear hb2 hPP hrd2
  obtain ⟨o, ho⟩ : ∃ o, o = hdrB rem := ⟨_, rfl⟩
  rw [← ho] at hk
  have HO := Lib.hid ho; clear ho
  cases o with
  | ok fs rem' =>
    obtain ⟨M, gs, SB, n, ns, rfl, hms, hfs, hsb, hin⟩ := hk
    have HK := Lib.hid (And.intro hms (And.intro hfs (And.intro hsb hin))); clear hms hfs hsb hin
    have hb3 := Lib.hid (HC.out.2.1.set 0 (.map (some M)))
    clear c1 m0' hg hg2
    go_wp2
    go_ret
    unfold PopPost
    rw [← HO.out]
    have hcf : Chg [PP] w2 (w2.setCell ⟨PP, 0, none⟩ (.map (some M))) := (Chg.refl [PP] w2).setCell (.inl (by simp)) _
    refine ⟨HC.out.2.2.trans (hcf.mono (by simp)), rfl, M, gs, SB, n, ns, _, ?_, hb3.out, HK.out.1.chg hcf ?_ ?_, HK.out.2.1, HK.out.2.2.1, HK.out.2.2.2.imp fun r k => k.imp fun lb k => k.imp fun lr k => k.draw hcf (fun x hx => by simp at hx; subst hx; exact ⟨hPB, hPn⟩)⟩
    · simp
    · have := HK.out.1.mb.1
      simp at this ⊢; omega
    · intro f hf k hk hm
      simp at hm; subst hm
      have hne := HK.out.1.vals f hf
      rcases HK.out.1.blk f hf _ hk with h1 | ⟨h1, _⟩
      · rcases hne.2 with ⟨i, s, hi, hvv, _⟩ | ⟨_, k2, hk2, hkS⟩
        · have hns : 0 < ns := by omega
          have : ¬ SB < (w.alloc (.cells #[.pointer (some ⟨h.BR, 0, none⟩), .pointer none, .slice none 0 0] 174)).heap.size := fun hl => by have := HK.out.2.2.1 hl; omega
          simp at this; omega
        · rw [hk] at hk2; cases hk2; exact hkS h1
      · simp at h1; omega
  | early =>
    obtain ⟨v, rfl⟩ := hk
    have hes := Lib.hid (errStr_any hg2.eof)
    have hne := str_ne
    clear c0 f0 hg hg2
    go_wp2_with fail
    refine hes.out.mono ?_
    rintro e w3 ⟨rfl, rfl⟩
    go_wp2
    go_ret
    unfold PopPost
    rw [← HO.out]
    exact ⟨HC.out.2.2, rfl⟩
  | wrong =>
    obtain ⟨v, er, rfl, hor⟩ := hk
    rcases hor with ⟨s, rfl⟩ | rfl
    · have g5 := (hg2.err 5 (by omega)).1
      unfold perr at *
      clear c0 f0 hg hg2
      go_wp2_with fail
      refine perrStr_any.mono ?_
      rintro e w3 ⟨rfl, rfl⟩
      by_cases hs : s.toList = [109, 101, 115, 115, 97, 103, 101, 32, 116, 111, 111, 32, 108, 97, 114, 103, 101]
      · have hst : (s.toList == [109, 101, 115, 115, 97, 103, 101, 32, 116, 111, 111, 32, 108, 97, 114, 103, 101]) = true := by rw [hs]; rfl
        clear hs
        go_wp2
        go_ret
        unfold PopPost
        rw [← HO.out]
        exact ⟨HC.out.2.2, _, rfl, .inr rfl⟩
      · have hsf : (s.toList == [109, 101, 115, 115, 97, 103, 101, 32, 116, 111, 111, 32, 108, 97, 114, 103, 101]) = false := by rw [beq_eq_false_iff_ne]; exact hs
        clear hs
        go_wp2
        go_ret
        unfold PopPost
        rw [← HO.out]
        exact ⟨HC.out.2.2, _, rfl, .inl ⟨_, rfl⟩⟩
    · have g5 := (hg2.err 5 (by omega)).1
      have hes := Lib.hid (errStr_any hg2.msg)
      clear c0 f0 hg hg2
      go_wp2_with fail
      refine hes.out.mono ?_
      rintro e w3 ⟨rfl, rfl⟩
      go_wp2
      go_ret
      unfold PopPost
      rw [← HO.out]
      exact ⟨HC.out.2.2, _, rfl, .inr rfl⟩
end Go.Proofs.YtekndndhgkdggaaGreatDoor
