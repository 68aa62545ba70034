/- A part's reader. A part read, and read to its end. -/
import Derived.Test.YtekndndhgkdggaaGreatDoorR8
import Derived.Deep.LoopGhost
import Derived.Deep.RegionHeld3
namespace Go.Proofs.YtekndndhgkdggaaGreatDoor
open Go.RowKit

def PrPost (B : Nat) (g : Nat → Addr) (h : Hs) (S : List Nat) (w : World) (PP MR M : Nat) (bd nl : Bs) (cur : Value) (parts : Nat) (rem : Bs) (res : Nat × Nat) (D od L : Nat) (cs : Array Value) (T : TypeId) (e : Ending) (w' : World) : Prop :=
  ∃ (k : Nat) (ev : Value), e = .returned (.tuple #[.int .i64 (k : Int), ev]) ∧ k ≤ L ∧ k ≤ res.1 ∧ ((ev = .nilIface ∧ 0 < k) ∨ (ev = erv (g res.2) ∧ k = res.1)) ∧ Chg (D :: PP :: h.all) w w' ∧
    (∃ cs', Blk w' D cs' T ∧ cs'.size = cs.size ∧ (∀ i, i < k → cs'[od + i]? = some (bv (rem.getD i 0))) ∧ (∀ i, i < od ∨ od + k ≤ i → cs'[i]? = cs[i]?)) ∧
    PtS B g h S w' PP MR M bd nl cur parts (rem.drop k) (res.1 - k, res.2)

/-- the search is over -/
def Done (B : Nat) (g : Nat → Addr) (h : Hs) (S : List Nat) (w wz : World) (PP MR M : Nat) (bd nl : Bs) (cur : Value) (parts : Nat) (rem : Bs) (res : Nat × Nat) : Prop :=
  Chg (PP :: h.all) w wz ∧ (∃ n tot fin ev, Blk wz PP (ptc PP MR M n tot ev (errV fin (g 1))) 93 ∧ tot + rem.length ≤ 3000 ∧ PD g (nl ++ [45, 45] ++ bd) n ev rem res) ∧ MRS S wz MR h bd nl cur parts ∧ ∃ r lb lr, InS B g h wz r rem .nilIface lb lr

/-- .. or not yet -/
def Srch (B : Nat) (g : Nat → Addr) (h : Hs) (S : List Nat) (w wz : World) (PP MR M : Nat) (bd nl : Bs) (cur : Value) (parts : Nat) (rem : Bs) (res : Nat × Nat) (k : Nat) : Prop :=
  Chg (PP :: h.all) w wz ∧ (∃ n tot fin ev, Blk wz PP (ptc PP MR M n tot ev (errV fin (g 1))) 93 ∧ tot + rem.length ≤ 3000 ∧ ((ev = .nilIface ∧ n = 0 ∧ wB ([45, 45] ++ bd) (nl ++ [45, 45] ++ bd) (tot == 0) rem = res ∧ (if fin then 1 else 2) ≤ k) ∨ PD g (nl ++ [45, 45] ++ bd) n ev rem res)) ∧ MRS S wz MR h bd nl cur parts ∧ ∃ r lb lr, InS B g h wz r rem .nilIface lb lr

set_option maxRecDepth 100000 in
set_option maxHeartbeats 8000000 in
theorem partRead_any {B : Nat} {g : Nat → Addr} {h : Hs} {S : List Nat} {w : World} {PP MR M : Nat} {bd nl : Bs} {cur : Value} {parts : Nat} {rem : Bs} {res : Nat × Nat} {D od L cd : Nat} {cs : Array Value} {T : TypeId} (hp : PtS B g h S w PP MR M bd nl cur parts rem res) (hnl : 0 < nl.length)
    (hD : Blk w D cs T) (hDn : D ∉ PP :: MR :: h.all) (hDB : B ≤ D) (hDS : D ∈ S) (hfit : od + L ≤ cs.size) (hL : 0 < L ∧ L ≤ cd) (hL9 : L ≤ 9223372036854775807) :
    Calls Tryz.prog 146 #[.agg #[.pointer (some ⟨PP, 0, none⟩)], .slice (some ⟨D, od, none⟩) L cd] w (PrPost B g h S w PP MR M bd nl cur parts rem res D od L cs T) := by
  have hfar := hp.far
  obtain ⟨hPn, hMn, hPB, hMB, hMS, hSS⟩ := hfar
  have hS0 : Hid (Srch B g h S (w.alloc (.cells #[.pointer (some ⟨PP, 0, none⟩)] 125)) (w.alloc (.cells #[.pointer (some ⟨PP, 0, none⟩)] 125)) PP MR M bd nl cur parts rem res 2) := by
    have hc : Chg [] w (w.alloc (.cells #[.pointer (some ⟨PP, 0, none⟩)] 125)) := (Chg.refl _ _).alloc _
    obtain ⟨n, tot, fin, ev, hb, ht, hw⟩ := hp.ex
    refine ⟨Chg.refl _ _, ⟨n, tot, fin, ev, hb.chg hc (by simp), ht, ?_⟩, hp.mr.chg hc.none hMS, hp.ins.imp fun r k => k.imp fun lb k => k.imp fun lr k => k.draw hc (by simp)⟩
    rcases hw with ⟨h1, h2, h3⟩ | h1 | h1
    · exact .inl ⟨h1, h2, h3, by split <;> omega⟩
    · exact .inr (.inl h1)
    · exact .inr (.inr h1)
  have hPlt : PP < w.heap.size := by obtain ⟨_, _, _, _, hb, _⟩ := hp.ex; exact hb.lt
  clear hp
  have hDw := Lib.hid (hD.alloc (.cells #[.pointer (some ⟨PP, 0, none⟩)] 125)); clear hD
  have hcw : Hid (Chg [] w (w.alloc (.cells #[.pointer (some ⟨PP, 0, none⟩)] 125))) := (Chg.refl _ _).alloc _
  have hpc : (w.alloc (.cells #[.pointer (some ⟨PP, 0, none⟩)] 125)).cell? ⟨w.heap.size, 0, none⟩ = some (.pointer (some ⟨PP, 0, none⟩)) := (Blk.new w _ _).cell 0
  obtain ⟨n, tot, fin, ev, hb, _, _⟩ := hS0.out.2.1
  obtain ⟨k0, k1, k4, k5, k6, k7, k8, f5, f6, f7, f8⟩ := pt_cells hb
  obtain ⟨⟨t9, v1, v2, v3, v4, hmb, _⟩, hbn⟩ := hS0.out.2.2.1
  have m0 : (w.alloc (.cells #[.pointer (some ⟨PP, 0, none⟩)] 125)).cell? ⟨MR, 0, none⟩ = some (.pointer (some ⟨h.BR, 0, none⟩)) := hmb.cell 0
  clear hb hmb k0 k4 k5 k6 k7 k8 f5 f6 f7 f8
  go_enter Tryz.func146, Tryz.ntmps146
  go_upto_block 0 with (fail)
  generalize w.alloc (.cells #[.pointer (some ⟨PP, 0, none⟩)] 125) = wa at *
  clear hpc k1 m0
  go_cut [] (fun wz => Hid (Done B g h S wa wz PP MR M bd nl cur parts rem res))
  case first =>
    go_wp2
    go_loopg [] 2 (fun k wr => Hid (Srch B g h S wa wr PP MR M bd nl cur parts rem res k))
    case atStart => exact hS0
    case round =>
      clear hS0
      have hrel := Lib.hid hrel.out
      obtain ⟨n, tot, fin, ev, hb, ht, hw⟩ := hrel.out.2.1
      obtain ⟨r, lb, lr, hin⟩ := hrel.out.2.2.2
      obtain ⟨⟨t9, v1, v2, v3, v4, hmb, hv1, hv2, hv3, hv4⟩, _⟩ := hrel.out.2.2.1
      obtain ⟨c0, c1, c4, c5, c6, c7, c8, f5, f6, f7, f8⟩ := pt_cells hb
      have m0 : wr.cell? ⟨MR, 0, none⟩ = some (.pointer (some ⟨h.BR, 0, none⟩)) := hmb.cell 0
      have m5 : wr.cell? ⟨MR, 5, none⟩ = some v2 := hmb.cell 5
      have m7 : wr.cell? ⟨MR, 7, none⟩ = some v4 := hmb.cell 7
      clear hmb
      have hl := hin.lt
      have hrem : rem.length ≤ 3000 := by omega
      rcases hw with ⟨rfl, rfl, hw, hk⟩ | hd
      · have HS := Lib.hid (And.intro hw hk); clear hw hk
        obtain ⟨x, hx⟩ : ∃ x, x = r + rem.length := ⟨_, rfl⟩
        have hbr := hin.br
        rw [← hx] at hbr
        have hbuf := Lib.hid (buffered_any hbr (by omega))
        have hK : x - r = rem.length := by omega
        rw [hK] at hbuf
        have HI := Lib.hid (And.intro hin hb); clear hin hbr hx hK hb
        go_wp2_with fail
        refine hbuf.out.mono ?_
        rintro e w2 ⟨rfl, nq, rfl⟩
        have hpk := Lib.hid (peek_in (HI.out.1.draw ((Chg.refl [] wr).drewN nq) (by simp)) rem.length (Nat.le_refl _))
        clear hbuf
        go_wp2_with fail
        refine hpk.out.mono ?_
        rintro e w3 ⟨rfl, hc3, hin3⟩
        have hc13 : Chg [h.BR] wr w3 := ((Chg.refl [h.BR] wr).drewN nq).trans hc3
        have ho := hin3.ok
        have hBRa : h.BR ∈ h.all := by unfold Hs.all; simp
        have hPBR : PP ∉ [h.BR] := fun hm => hPn (by simp at hm; simp [hm, hBRa])
        have hMBR : MR ∉ [h.BR] := fun hm => hMn (by simp at hm; rw [hm]; exact hBRa)
        have hSBR : ∀ x ∈ [h.BR], x ∈ S := fun x hx => by simp at hx; subst hx; exact hSS _ (by simp [hBRa])
        have hb3 := HI.out.2.chg hc13 hPBR
        have hmr3 := hrel.out.2.2.1.chg (hc13.mono hSBR) hMS
        obtain ⟨⟨t9', v1', v2', v3', v4', hmb', hv1', hv2', hv3', hv4'⟩, _⟩ := id hmr3
        have hcd : Chg [] w3 w3.drew := (Chg.refl [] w3).drew
        have hsegd := hin3.seg.chg hcd (by simp)
        have hfl : 0 < ([45, 45] ++ bd : Bs).length ∧ ([45, 45] ++ bd : Bs).length ≤ 102 := by simp only [List.length_append, List.length_cons, List.length_nil]; omega
        have hll : 0 < (nl ++ [45, 45] ++ bd : Bs).length ∧ (nl ++ [45, 45] ++ bd : Bs).length ≤ 104 := by simp only [List.length_append, List.length_cons, List.length_nil]; omega
        have hw1 := HS.out.1
        obtain ⟨fr, hfr⟩ : ∃ fr, fr = ([45, 45] ++ bd : Bs) := ⟨_, rfl⟩
        obtain ⟨ln, hln⟩ : ∃ ln, ln = (nl ++ [45, 45] ++ bd : Bs) := ⟨_, rfl⟩
        rw [← hfr] at hfl hv4' hw1
        rw [← hln] at hll hv2' hw1
        have hsc := Lib.hid (scan_any (S := []) tot fin (g 1) (hin3.gl.chg hcd (by simp)) (BS.of_seg (c := 4096 - r) hsegd rfl (by omega) (by simp)) ((hv4'.mono (by simp)).chg hcd) ((hv2'.mono (by simp)).chg hcd) (by omega) hfl.2 hll)
        obtain ⟨rr, hrr⟩ : ∃ rr, rr = scanB fr ln (tot == 0) fin rem := ⟨_, rfl⟩
        unfold ScanPost at hsc
        rw [← hrr] at hsc
        have hnx := scan_next (g := g) (fin := fin) hll.1 hfl.1 hw1 rr hrr
        have hEE : scanE g fin (g 1) rr.2 = .nilIface ∨ ∃ q', scanE g fin (g 1) rr.2 = erv q' := by
          obtain ⟨a1, a2⟩ := rr
          rcases a2 with _ | _ | a2
          · exact .inl rfl
          · exact .inr ⟨_, rfl⟩
          · cases fin with
            | true => exact .inr ⟨_, rfl⟩
            | false => exact .inl rfl
        generalize scanE g fin (g 1) rr.2 = EE at *
        obtain ⟨c0, c1, c4, c5, c6, c7, c8, f5, f6, f7, f8⟩ := pt_cells hb3
        have m5 : w3.cell? ⟨MR, 5, none⟩ = some v2' := hmb'.cell 5
        have m7 : w3.cell? ⟨MR, 7, none⟩ = some v4' := hmb'.cell 7
        generalize hRV : errV fin (g 1) = RV at *
        obtain ⟨a5, b5, rfl, _⟩ := id hv2'
        obtain ⟨a7, b7, rfl, _⟩ := id hv4'
        have HFL := Lib.hid (And.intro hfr (And.intro hln hw1)); clear hfr hln hw1 hfl hll
        obtain ⟨nn, hnn⟩ : ∃ nn, nn = rr.1 := ⟨_, rfl⟩
        rw [← hnn] at hsc hnx
        have hPM : MR ≠ PP := fun e => hPn (by simp [e])
        have hkp : ∀ wy n' E', Blk wy PP (ptc PP MR M n' tot E' RV) 93 → Blk wy MR #[.pointer (some ⟨h.BR, 0, none⟩), t9', cur, .int .i64 (parts : Int), v1', .slice a5 ln.length b5, v3', .slice a7 fr.length b7] 81 →
            wy.cell? ⟨PP, 1, none⟩ = some (.pointer (some ⟨MR, 0, none⟩)) ∧ wy.cell? ⟨MR, 5, none⟩ = some (.slice a5 ln.length b5) ∧ wy.cell? ⟨MR, 7, none⟩ = some (.slice a7 fr.length b7) ∧ wy.cell? ⟨PP, 6, none⟩ = some (.int .i64 (tot : Int)) ∧ wy.cell? ⟨PP, 8, none⟩ = some RV := fun wy n' E' h1 h2 =>
          ⟨h1.cell 1, h2.cell 5, h2.cell 7, h1.cell 6, h1.cell 8⟩
        have hA : ∀ m v, ((fun w' => w'.cell? ⟨PP, 1, none⟩ = some (.pointer (some ⟨MR, 0, none⟩)) ∧ w'.cell? ⟨MR, 5, none⟩ = some (.slice a5 ln.length b5) ∧ w'.cell? ⟨MR, 7, none⟩ = some (.slice a7 fr.length b7) ∧ w'.cell? ⟨PP, 6, none⟩ = some (.int .i64 (tot : Int)) ∧ w'.cell? ⟨PP, 8, none⟩ = some RV) ((w3.drewN m).setCell ⟨PP, 5, none⟩ (.int .i64 ((v : Nat) : Int)))) := fun m v => hkp _ v .nilIface ((hb3.drewN m).set 5 _) ((hmb'.drewN m).set_ne hPM _)
        have hB : ∀ m E, ((fun w' => w'.cell? ⟨PP, 1, none⟩ = some (.pointer (some ⟨MR, 0, none⟩)) ∧ w'.cell? ⟨MR, 5, none⟩ = some (.slice a5 ln.length b5) ∧ w'.cell? ⟨MR, 7, none⟩ = some (.slice a7 fr.length b7) ∧ w'.cell? ⟨PP, 6, none⟩ = some (.int .i64 (tot : Int)) ∧ w'.cell? ⟨PP, 8, none⟩ = some RV) ((w3.drewN m).setCell ⟨PP, 7, none⟩ E)) := fun m E => hkp _ 0 E ((hb3.drewN m).set 7 _) ((hmb'.drewN m).set_ne hPM _)
        have hC : ∀ m v E, ((fun w' => w'.cell? ⟨PP, 1, none⟩ = some (.pointer (some ⟨MR, 0, none⟩)) ∧ w'.cell? ⟨MR, 5, none⟩ = some (.slice a5 ln.length b5) ∧ w'.cell? ⟨MR, 7, none⟩ = some (.slice a7 fr.length b7) ∧ w'.cell? ⟨PP, 6, none⟩ = some (.int .i64 (tot : Int)) ∧ w'.cell? ⟨PP, 8, none⟩ = some RV) (((w3.drewN m).setCell ⟨PP, 5, none⟩ (.int .i64 ((v : Nat) : Int))).setCell ⟨PP, 7, none⟩ E)) := fun m v E => hkp _ v E (((hb3.drewN m).set 5 _).set 7 _) (((hmb'.drewN m).set_ne hPM _).set_ne hPM _)
        have hE : ∀ m v E, ((fun w' => w'.cell? ⟨PP, 1, none⟩ = some (.pointer (some ⟨MR, 0, none⟩)) ∧ w'.cell? ⟨MR, 5, none⟩ = some (.slice a5 ln.length b5) ∧ w'.cell? ⟨MR, 7, none⟩ = some (.slice a7 fr.length b7) ∧ w'.cell? ⟨PP, 6, none⟩ = some (.int .i64 (tot : Int)) ∧ w'.cell? ⟨PP, 8, none⟩ = some RV) (((w3.drewN m).setCell ⟨PP, 7, none⟩ E).setCell ⟨PP, 5, none⟩ (.int .i64 ((v : Nat) : Int)))) := fun m v E => hkp _ v E (((hb3.drewN m).set 7 _).set 5 _) (((hmb'.drewN m).set_ne hPM _).set_ne hPM _)
        have HX := Lib.hid (And.intro hb3 (And.intro hmr3 (And.intro hin3 (And.intro hc13 (And.intro hnx (And.intro hrr hRV)))))); clear hb3 hmr3 hin3 hc13 hnx hkp hrr hRV hc3 hpk hmb' hv1' hv2' hv3' hv4' hsegd hcd hnn
        clear hv1 hv2 hv3 hv4
        go_upto_region 5 with (fail)
        go_cut [] from 20 to 104 (fun wz => Hid (Blk wz PP (ptc PP MR M nn tot EE RV) 93 ∧ Chg [PP] w3 wz))
        case first =>
          rcases hEE with rfl | ⟨q', rfl⟩
          all_goals
            go_region_held3 (fun w' => w'.cell? ⟨PP, 1, none⟩ = some (.pointer (some ⟨MR, 0, none⟩)) ∧ w'.cell? ⟨MR, 5, none⟩ = some (.slice a5 ln.length b5) ∧ w'.cell? ⟨MR, 7, none⟩ = some (.slice a7 fr.length b7) ∧ w'.cell? ⟨PP, 6, none⟩ = some (.int .i64 (tot : Int)) ∧ w'.cell? ⟨PP, 8, none⟩ = some RV) (first | exact ⟨c1, m5, m7, c6, c8⟩ | exact hA _ _ | exact hB _ _ | exact hC _ _ _ | exact hE _ _ _ | go_keep)               (first | (go_at_call 147; refine hsc.out.mono ?_; rintro e w4 ⟨rfl, nq2, rfl⟩))
          all_goals (go_wp2; go_meet)
          all_goals first
            | exact ⟨((HX.out.1.drewN _).set 5 _).set 7 _, (((Chg.refl [PP] w3).drewN _).setCell (.inl (by simp)) _).setCell (.inl (by simp)) _⟩
            | exact ⟨((HX.out.1.drewN _).set 7 _).set 5 _, (((Chg.refl [PP] w3).drewN _).setCell (.inl (by simp)) _).setCell (.inl (by simp)) _⟩
        case rest =>
          have hcut := Lib.hid hcut.out
          clear hA hB hC hE hsc c0 c1 c4 c5 c6 c7 c8 f5 f6 f7 f8 m5 m7
          obtain ⟨hb3, hmr3, hin3, hc13, hnx, hrr, hRV⟩ := HX.out
          have hPP1 : PP ∉ h.all := fun hm => hPn (by simp [hm])
          have hinc := hin3.draw hcut.out.2 (fun x hx => by simp at hx; subst hx; exact ⟨hPB, hPP1⟩)
          have hmrc := hmr3.chg (hcut.out.2.mono (S' := S) (fun x hx => by simp at hx; subst hx; exact hSS _ (by simp))) hMS
          have hcac : Chg (PP :: h.all) wa wc := (hrel.out.1.trans (hc13.mono (by intro x hx; simp at hx; subst hx; simp [hBRa]))).trans (hcut.out.2.mono (by intro x hx; simp at hx; simp [hx]))
          obtain ⟨c0, c1, c4, c5, c6, c7, c8, f5, f6, f7, f8⟩ := pt_cells hcut.out.1
          rcases hnx with ⟨hn0, hE0, hf0⟩ | hpd
          · subst hn0
            subst hE0
            subst hf0
            obtain ⟨K, hK⟩ : ∃ K, K = rem.length + 1 := ⟨_, rfl⟩
            have hwK : IntKind.i64.wrap ((rem.length : Int) + 1) = (K : Int) := by rw [IntWalk.i64_in _ (by omega)]; omega
            have hpo := Lib.hid (peek_out hinc K (by omega) (by omega))
            have HK := Lib.hid (And.intro hK (And.intro hmrc (And.intro hcac (And.intro hinc ht)))); clear hK hinc hmrc hcac ht
            clear hb3 hmr3 hin3 hc13 hrr hRV
            go_wp2_with fail
            refine hpo.out.mono ?_
            rintro e w6 ⟨rfl, hc6, hin6⟩
            have hb6 := hcut.out.1.chg hc6 hPP1
            have hmr6 := HK.out.2.1.chg (hc6.mono (S' := S) (fun x hx => hSS _ (by simp [hx]))) hMS
            have hca6 := HK.out.2.2.1.trans (hc6.mono (by intro x hx; simp [hx]))
            clear hpo c0 c1 c4 c5 c6 c7 c8 f5 f6 f7 f8
            obtain ⟨c0, c1, c4, c5, c6, c7, c8, f5, f6, f7, f8⟩ := pt_cells hb6
            have hg7 : Glb B g (w6.setCell ⟨PP, 8, none⟩ (erv (g 0))) := hin6.gl.chg ((Chg.refl [PP] w6).setCell (.inl (by simp)) _) (by simpa using hPB)
            have hb7 := hb6.set 8 (erv (g 0))
            have g0 := (hg7.err 0 (by omega)).1
            have g1 := (hg7.err 1 (by omega)).1
            have d8 : (w6.setCell ⟨PP, 8, none⟩ (erv (g 0))).cell? ⟨PP, 8, none⟩ = some (erv (g 0)) := hb7.cell 8
            have df8 : (w6.setCell ⟨PP, 8, none⟩ (erv (g 0))).frozen? ⟨PP, 8, none⟩ = false := hb7.free 8
            have heq0 := fun W => eql_eq W (g 0)
            have H7 := Lib.hid (And.intro hb6 (And.intro hmr6 (And.intro hca6 (And.intro hin6 hc6)))); clear hb6 hmr6 hca6 hin6 hc6 hg7 hb7
            go_upto_region 8 with (fail)
            generalize hw7 : w6.setCell ⟨PP, 8, none⟩ (erv (g 0)) = w7 at *
            have HW7 := Lib.hid hw7; clear hw7
            go_quiet (fail)
            go_wp2
            go_roundg 1
            case measure => have := HS.out.2; simp at this; omega
            case rel =>
              obtain ⟨hb6, hmr6, hca6, hin6, hc6⟩ := H7.out
              have hw7 := HW7.out
              subst hw7
              have hcf : Chg [PP] w6 (((w6.setCell ⟨PP, 8, none⟩ (erv (g 0))).drewN nq).setCell ⟨PP, 8, none⟩ (erv (g 1))) := (((Chg.refl [PP] w6).setCell (p := ⟨PP, 8, none⟩) (.inl (by simp)) _).drewN _).setCell (p := ⟨PP, 8, none⟩) (.inl (by simp)) _
              exact ⟨hca6.trans (hcf.mono (by intro x hx; simp at hx; simp [hx])), ⟨0, tot, true, .nilIface, ((hb6.set 8 (erv (g 0))).drewN nq).set 8 (erv (g 1)), HK.out.2.2.2.2, .inl ⟨rfl, rfl, HS.out.1, by simp⟩⟩,
                hmr6.chg (hcf.mono (S' := S) (fun x hx => by simp at hx; subst hx; exact hSS _ (by simp))) hMS, _, _, _, hin6.draw hcf (fun x hx => by simp at hx; subst hx; exact ⟨hPB, hPP1⟩)⟩
          · have hfw := HFL.out.2.1
            rw [hfw] at hpd
            have hk0 : 0 < gk := by have := HS.out.2; split at this <;> omega
            have HE := Lib.hid (And.intro hpd (And.intro hmrc (And.intro hcac (And.intro hinc (And.intro ht hRV))))); clear hmrc hcac hinc ht hRV hb3 hmr3 hin3 hc13 hrr hfw
            have hrl : Hid (Srch B g h S wa wc PP MR M bd nl cur parts rem res 0) :=
              ⟨HE.out.2.2.1, ⟨nn, tot, fin, EE, by rw [HE.out.2.2.2.2.2]; exact hcut.out.1, HE.out.2.2.2.2.1, .inr HE.out.1⟩, HE.out.2.1, _, _, _, HE.out.2.2.2.1⟩
            rcases hpd with ⟨rfl, hnp, _, _⟩ | ⟨rfl, hrn, _, _⟩
            · have hnz : ((nn : Int) == 0) = false := by rw [beq_eq_false_iff_ne]; omega
              go_wp2
              go_roundg 0
              case measure => exact hk0
              case rel => exact hrl
            · by_cases hn0 : nn = 0
              · subst hn0
                clear hrn
                go_wp2
                go_roundg 0
                case measure => exact hk0
                case rel => exact hrl
              · have hnz : ((nn : Int) == 0) = false := by rw [beq_eq_false_iff_ne]; omega
                clear hrn
                go_wp2
                go_roundg 0
                case measure => exact hk0
                case rel => exact hrl
      · have HD := Lib.hid (And.intro hd (And.intro hb ht)); clear hin hb ht hv1 hv2 hv3 hv4
        have hfin : Hid (Done B g h S wa wr PP MR M bd nl cur parts rem res) := ⟨hrel.out.1, ⟨n, tot, fin, ev, HD.out.2.1, HD.out.2.2, HD.out.1⟩, hrel.out.2.2⟩
        rcases hd with ⟨rfl, hnp, _, _⟩ | ⟨rfl, hrn, _, _⟩
        · have hnz : ((n : Int) == 0) = false := by rw [beq_eq_false_iff_ne]; omega
          go_wp2
          go_meet
          exact hfin
        · by_cases hn0 : n = 0
          · subst hn0
            clear hrn
            go_wp2
            go_meet
            exact hfin
          · have hnz : ((n : Int) == 0) = false := by rw [beq_eq_false_iff_ne]; omega
            clear hrn
            go_wp2
            go_meet
            exact hfin
  case rest =>
    clear hS0
    have hdn := Lib.hid hcut.out
    clear hcut
    obtain ⟨n, tot, fin, ev, hb, ht, hpd⟩ := hdn.out.2.1
    obtain ⟨r, lb, lr, hin⟩ := hdn.out.2.2.2
    have hl := hin.lt
    obtain ⟨c0, c1, c4, c5, c6, c7, c8, f5, f6, f7, f8⟩ := pt_cells hb
    obtain ⟨hnl2, hend, hnr⟩ := hpd.ended
    have hPP1 : PP ∉ h.all := fun hm => hPn (by simp [hm])
    have hDP : D ≠ PP := fun e => hDn (by simp [e])
    have hDa : D ∉ h.all := fun hm => hDn (by simp [hm])
    have hDM : D ≠ MR := fun e => hDn (by simp [e])
    have hDz := hDw.out.chg hdn.out.1 (by simp; exact ⟨hDP, hDa⟩)
    have hchg : Chg (D :: PP :: h.all) w wc := hcw.out.none.trans (hdn.out.1.mono (by intro x hx; simp at hx; simp [hx]))
    by_cases hn0 : n = 0
    · obtain ⟨rfl, hr0⟩ := hend hn0
      subst hn0
      have H := Lib.hid (And.intro hb (And.intro ht (And.intro hpd (And.intro hr0 (And.intro hDz hchg))))); clear hb ht hpd hr0 hDz hchg hin hend
      go_wp2
      go_quiet (fail)
      go_wp2
      go_ret2
      obtain ⟨hb, ht, hpd, hr0, hDz, hchg⟩ := H.out
      have hcd : Chg [] wc (wc.drewN nq) := (Chg.refl [] wc).drewN nq
      refine ⟨0, _, rfl, Nat.zero_le _, Nat.zero_le _, .inr ⟨rfl, hr0.symm⟩, hchg.drewN _, ⟨cs, hDz.drewN _, rfl, fun i hi => by omega, fun _ _ => rfl⟩, ⟨0, tot, fin, _, hb.drewN _, ht, ?_⟩, hdn.out.2.2.1.chg hcd.none hMS, hdn.out.2.2.2.imp fun r k => k.imp fun lb k => k.imp fun lr k => k.draw hcd (by simp), hPn, hMn, hPB, hMB, hMS, hSS⟩
      rcases hpd with h1 | h1
      · exact .inr (.inl h1)
      · exact .inr (.inr h1)
    · have hnz : ((n : Int) == 0) = false := by rw [beq_eq_false_iff_ne]; omega
      have H := Lib.hid (And.intro hb (And.intro ht (And.intro hpd (And.intro hDz (And.intro hchg hin))))); clear hb ht hpd hDz hchg hin hend
      go_upto_if 121 with (fail)
      go_cut [10] (fun s wz => ∃ q : Nat, s = .int .i64 (q : Int) ∧ 0 < q ∧ q ≤ n ∧ q ≤ L ∧ wz = wc)
      case first =>
        by_cases hLn : n < L
        · have hgt : decide ((L : Int) > (n : Int)) = true := by rw [decide_eq_true_eq]; omega
          go_wp2
          go_meet
          exact ⟨n, rfl, by omega, Nat.le_refl _, by omega, rfl⟩
        · have hgt : decide ((L : Int) > (n : Int)) = false := by rw [decide_eq_false_iff_not]; omega
          go_wp2
          go_meet
          exact ⟨L, rfl, by omega, by omega, Nat.le_refl _, rfl⟩
      case rest =>
        obtain ⟨q, rfl, hq0, hqn, hqL, hwe⟩ := hcut
        subst hwe
        obtain ⟨hb, ht, hpd, hDz, hchg, hin⟩ := H.out
        have sl := fun wy => slice22_h (some ⟨D, od, none⟩) L cd .i64 (q : Int) (by omega) (by omega) wy
        simp only [Int.toNat_natCast] at sl
        have hrd := Lib.hid (bufRead_in (od := od) hin hDz hDa hDB (cd := cd) (by omega) hq0 (by omega : q ≤ rem.length))
        obtain ⟨tq, htq⟩ : ∃ tq, tq = tot + q := ⟨_, rfl⟩
        have hwt : IntKind.i64.wrap ((tot : Int) + (q : Int)) = (tq : Int) := by rw [IntWalk.i64_in _ (by omega)]; omega
        obtain ⟨m, hm⟩ : ∃ m, m = n - q := ⟨_, rfl⟩
        have hwm : IntKind.i64.wrap ((n : Int) - (q : Int)) = (m : Int) := by rw [IntWalk.i64_in _ (by omega)]; omega
        have hqr : q ≤ rem.length := by omega
        have HQ := Lib.hid (And.intro htq hm); clear htq hm hb ht hpd hDz hchg hin c0 c1 c4 c5 c6 c7 c8 f5 f6 f7 f8
        go_wp2_with fail
        refine hrd.out.mono ?_
        rintro e w2 ⟨rfl, hc2, hfill, hin2⟩
        obtain ⟨hb, ht, hpd, hDz, hchg, hin⟩ := H.out
        have ho := hin.ok
        have hBRa : h.BR ∈ h.all := by unfold Hs.all; simp
        have hPBR : PP ∉ [h.BR, D] := fun hmm => by simp at hmm; rcases hmm with h1 | h1
                                                    · exact hPP1 (by rw [h1]; exact hBRa)
                                                    · exact hDP h1.symm
        have hMBR : MR ∉ [h.BR, D] := fun hmm => by simp at hmm; rcases hmm with h1 | h1
                                                    · exact hMn (by rw [h1]; exact hBRa)
                                                    · exact hDM h1.symm
        have hb2 := hb.chg hc2 hPBR
        have hmr2 := hdn.out.2.2.1.chg (hc2.mono (S' := S) (fun x hx => by simp at hx; rcases hx with rfl | rfl; exact hSS _ (by simp [hBRa]); exact hDS)) hMS
        have hb3 := hb2.set 6 (.int .i64 (tq : Int))
        have hb4 := hb3.set 5 (.int .i64 (m : Int))
        have c5 : w2.cell? ⟨PP, 5, none⟩ = some (.int .i64 (n : Int)) := hb2.cell 5
        have c6 : w2.cell? ⟨PP, 6, none⟩ = some (.int .i64 (tot : Int)) := hb2.cell 6
        have f6 : w2.frozen? ⟨PP, 6, none⟩ = false := hb2.free 6
        have d5 : (w2.setCell ⟨PP, 6, none⟩ (.int .i64 (tq : Int))).cell? ⟨PP, 5, none⟩ = some (.int .i64 (n : Int)) := hb3.cell 5
        have df5 : (w2.setCell ⟨PP, 6, none⟩ (.int .i64 (tq : Int))).frozen? ⟨PP, 5, none⟩ = false := hb3.free 5
        have e5 : ((w2.setCell ⟨PP, 6, none⟩ (.int .i64 (tq : Int))).setCell ⟨PP, 5, none⟩ (.int .i64 (m : Int))).cell? ⟨PP, 5, none⟩ = some (.int .i64 (m : Int)) := hb4.cell 5
        have e7 : ((w2.setCell ⟨PP, 6, none⟩ (.int .i64 (tq : Int))).setCell ⟨PP, 5, none⟩ (.int .i64 (m : Int))).cell? ⟨PP, 7, none⟩ = some ev := hb4.cell 7
        have hcf : Chg [PP] w2 ((w2.setCell ⟨PP, 6, none⟩ (.int .i64 (tq : Int))).setCell ⟨PP, 5, none⟩ (.int .i64 (m : Int))) := ((Chg.refl [PP] w2).setCell (p := ⟨PP, 6, none⟩) (.inl (by simp)) _).setCell (p := ⟨PP, 5, none⟩) (.inl (by simp)) _
        obtain ⟨hqres, hpw⟩ := hpd.took (front := [45, 45] ++ bd) (tot := tot) hqn hq0
        have FIN : ∀ wq, Chg [] ((w2.setCell ⟨PP, 6, none⟩ (.int .i64 (tq : Int))).setCell ⟨PP, 5, none⟩ (.int .i64 (m : Int))) wq → Chg (D :: PP :: h.all) w wq ∧
            (∃ cs', Blk wq D cs' T ∧ cs'.size = cs.size ∧ (∀ i, i < q → cs'[od + i]? = some (bv (rem.getD i 0))) ∧ (∀ i, i < od ∨ od + q ≤ i → cs'[i]? = cs[i]?)) ∧
            PtS B g h S wq PP MR M bd nl cur parts (rem.drop q) (res.1 - q, res.2) := fun wq hwq => by
          have hc2q : Chg [PP] w2 wq := hcf.trans hwq.none
          refine ⟨((hchg.trans (hc2.mono (by intro x hx; simp at hx; rcases hx with rfl | rfl <;> simp [hBRa]))).trans (hc2q.mono (by intro x hx; simp at hx; simp [hx]))), ?_, ⟨m, tq, fin, ev, hb4.chg hwq (by simp), by have := HQ.out.1; simp; omega, by rw [HQ.out.1, HQ.out.2]; exact hpw⟩,
            hmr2.chg (hc2q.mono (S' := S) (fun x hx => by simp at hx; subst hx; exact hSS _ (by simp))) hMS, ⟨r + q, hin2.imp fun lb k => k.imp fun lr k => k.draw hc2q (fun x hx => by simp at hx; subst hx; exact ⟨hPB, hPP1⟩)⟩, hPn, hMn, hPB, hMB, hMS, hSS⟩
          obtain ⟨cs', hbD, hsz, hin', hout'⟩ := hfill
          exact ⟨cs', hbD.chg hc2q (by simpa using hDP), hsz, hin', hout'⟩
        have FIN := Lib.hid FIN
        have HP := Lib.hid (And.intro hpd hqres); clear hb ht hpd hDz hchg hin hb2 hmr2 hb3 hb4 hcf hqres hpw hfill hin2 hc2 hrd
        by_cases hm0 : m = 0
        · have hmz : ((m : Int) == 0) = true := by rw [beq_iff_eq]; omega
          have HM0 := Lib.hid hm0; clear hm0
          go_upto_region 19 with (fail)
          generalize (w2.setCell ⟨PP, 6, none⟩ (.int .i64 (tq : Int))).setCell ⟨PP, 5, none⟩ (.int .i64 (m : Int)) = w4 at *
          go_quiet (fail)
          go_wp2
          go_ret2
          obtain ⟨f1, f2, f3⟩ := FIN.out _ ((Chg.refl [] w4).drewN nq)
          refine ⟨q, ev, rfl, hqL, HP.out.2, ?_, f1, f2, f3⟩
          have hmq := HQ.out.2
          have hm0 := HM0.out
          rcases HP.out.1 with ⟨rfl, _, _, _⟩ | ⟨rfl, hrn, _, _⟩
          · exact .inl ⟨rfl, hq0⟩
          · exact .inr ⟨rfl, by omega⟩
        · have hmz : ((m : Int) == 0) = false := by rw [beq_eq_false_iff_ne]; omega
          go_wp2
          go_ret2
          obtain ⟨f1, f2, f3⟩ := FIN.out _ (Chg.refl _ _)
          exact ⟨q, _, rfl, hqL, HP.out.2, .inl ⟨rfl, hq0⟩, f1, f2, f3⟩
end Go.Proofs.YtekndndhgkdggaaGreatDoor

namespace Go.Proofs.YtekndndhgkdggaaGreatDoor
open Go.RowKit

set_option maxRecDepth 100000 in
set_option maxHeartbeats 1000000 in
theorem partRead2_any {B : Nat} {g : Nat → Addr} {h : Hs} {S : List Nat} {w : World} {PP MR M : Nat} {bd nl : Bs} {cur : Value} {parts : Nat} {rem : Bs} {res : Nat × Nat} {D od L cd : Nat} {cs : Array Value} {T : TypeId} (hp : PtS B g h S w PP MR M bd nl cur parts rem res) (hnl : 0 < nl.length)
    (hD : Blk w D cs T) (hDn : D ∉ PP :: MR :: h.all) (hDB : B ≤ D) (hDS : D ∈ S) (hfit : od + L ≤ cs.size) (hL : 0 < L ∧ L ≤ cd) (hL9 : L ≤ 9223372036854775807) :
    Calls Tryz.prog 139 #[.pointer (some ⟨PP, 0, none⟩), .slice (some ⟨D, od, none⟩) L cd] w (PrPost B g h S w PP MR M bd nl cur parts rem res D od L cs T) := by
  obtain ⟨n, tot, fin, ev, hb, _, _⟩ := hp.ex
  obtain ⟨_, _, c4, _, _, _, _, _, _, _, _⟩ := pt_cells hb
  have hr := Lib.hid (partRead_any (cd := cd) hp hnl hD hDn hDB hDS hfit hL hL9)
  clear hp hb hD
  go_enter Tryz.func139, Tryz.ntmps139
  go_wp2_with fail
  refine hr.out.mono ?_
  rintro e w' ⟨k, ev', rfl, hk⟩
  have hk := Lib.hid hk
  go_wp2
  go_ret2
  exact ⟨k, ev', rfl, hk.out⟩

theorem MRS.add {S S' : List Nat} {w : World} {MR : Nat} {h : Hs} {bd nl : Bs} {cur : Value} {parts : Nat} (hm : MRS S w MR h bd nl cur parts) (hs : ∀ x, x ∈ S' → x ∈ S ∨ w.heap.size ≤ x) : MRS S' w MR h bd nl cur parts := by
  obtain ⟨⟨t, v1, v2, v3, v4, hb, h1, h2, h3, h4⟩, hbn⟩ := hm
  have hs' : ∀ x, x ∈ MR :: S' → x ∈ MR :: S ∨ w.heap.size ≤ x := fun x hx => by
    rcases List.mem_cons.1 hx with rfl | hx
    · exact .inl (by simp)
    · exact (hs x hx).imp (fun h => by simp [h]) id
  exact ⟨⟨t, v1, v2, v3, v4, hb, h1.add _ hs', h2.add _ hs', h3.add _ hs', h4.add _ hs'⟩, hbn⟩

/-- a block that is new may be written, too -/
theorem PtS.add {B : Nat} {g : Nat → Addr} {h : Hs} {S S' : List Nat} {w : World} {PP MR M : Nat} {bd nl : Bs} {cur : Value} {parts : Nat} {rem : Bs} {res : Nat × Nat} (hp : PtS B g h S w PP MR M bd nl cur parts rem res) (hs : ∀ x, x ∈ S' → x ∈ S ∨ w.heap.size ≤ x) (hk : ∀ x ∈ PP :: h.all, x ∈ S') : PtS B g h S' w PP MR M bd nl cur parts rem res := by
  obtain ⟨h1, h2, h3, h4, h5, h6⟩ := hp.far
  refine ⟨hp.ex, hp.mr.add hs, hp.ins, h1, h2, h3, h4, fun hm => ?_, hk⟩
  rcases hs MR hm with h | h
  · exact h5 h
  · obtain ⟨⟨_, _, _, _, _, hb, _⟩, _⟩ := hp.mr
    have := hb.lt; omega

theorem PtS.quiet {B : Nat} {g : Nat → Addr} {h : Hs} {S : List Nat} {w w' : World} {PP MR M : Nat} {bd nl : Bs} {cur : Value} {parts : Nat} {rem : Bs} {res : Nat × Nat} (hp : PtS B g h S w PP MR M bd nl cur parts rem res) (hc : Chg [] w w') : PtS B g h S w' PP MR M bd nl cur parts rem res := by
  obtain ⟨n, tot, fin, ev, hb, r⟩ := hp.ex
  obtain ⟨h1, h2, h3, h4, h5, h6⟩ := hp.far
  exact ⟨⟨n, tot, fin, ev, hb.chg hc (by simp), r⟩, hp.mr.chg hc.none h5, hp.ins.imp fun r k => k.imp fun lb k => k.imp fun lr k => k.draw hc (by simp), hp.far⟩

def DiPost (B : Nat) (g : Nat → Addr) (h : Hs) (S : List Nat) (w : World) (PP MR M : Nat) (bd nl : Bs) (cur : Value) (parts : Nat) (rem : Bs) (res : Nat × Nat) (e : Ending) (w' : World) : Prop :=
  e = .returned (.tuple #[]) ∧ Chg (PP :: h.all) w w' ∧ PtS B g h S w' PP MR M bd nl cur parts (rem.drop res.1) (0, res.2)

set_option maxRecDepth 100000 in
set_option maxHeartbeats 4000000 in
theorem discard_any {B : Nat} {g : Nat → Addr} {h : Hs} {S : List Nat} {w : World} {PP MR M : Nat} {bd nl : Bs} {cur : Value} {parts : Nat} {rem : Bs} {res : Nat × Nat} (hp : PtS B g h S w PP MR M bd nl cur parts rem res) (hnl : 0 < nl.length) :
    Calls Tryz.prog 53 #[.iface 52 (.pointer (some ⟨PP, 0, none⟩))] w (DiPost B g h S w PP MR M bd nl cur parts rem res) := by
  have hc0 : Chg [] w (w.alloc (.cells Tryz.zeroCells153 153)) := (Chg.refl _ _).alloc _
  have hz : Tryz.zeroCells153.size = 512 := by kernel_rfl
  obtain ⟨D, hDe⟩ : ∃ D, D = w.heap.size := ⟨_, rfl⟩
  have hDlt : ∀ x ∈ PP :: MR :: h.all, x < w.heap.size := by
    intro x hx
    obtain ⟨n, tot, fin, ev, hb, _⟩ := hp.ex
    obtain ⟨⟨_, _, _, _, _, hmb, _⟩, _⟩ := hp.mr
    obtain ⟨r, lb, lr, hin⟩ := hp.ins
    rcases List.mem_cons.1 hx with rfl | hx
    · exact hb.lt
    · rcases List.mem_cons.1 hx with rfl | hx
      · exact hmb.lt
      · unfold Hs.all at hx
        simp at hx
        rcases hx with rfl | rfl | rfl | rfl
        · obtain ⟨_, _, _, _, hb, _⟩ := hin.rd; exact hb.lt
        · obtain ⟨_, hb, _⟩ := hin.st; exact hb.lt
        · exact hin.br.lt
        · obtain ⟨_, _, hb, _⟩ := hin.u; exact hb.lt
  have hDn : D ∉ PP :: MR :: h.all := fun hm => by have := hDlt D hm; omega
  have hDB : B ≤ D := by obtain ⟨r, lb, lr, hin⟩ := hp.ins; have := hin.gl.le; omega
  have hSS := hp.far.2.2.2.2.2
  have hMS := hp.far.2.2.2.2.1
  have hpa : PtS B g h (D :: S) (w.alloc (.cells Tryz.zeroCells153 153)) PP MR M bd nl cur parts rem res :=
    (hp.add (S' := D :: S) (fun x hx => by
      rcases List.mem_cons.1 hx with rfl | hx
      · exact .inr (by omega)
      · exact .inl hx) (fun x hx => by simp only [List.mem_cons]; exact .inr (hSS x hx))).quiet hc0
  have hDb : Blk (w.alloc (.cells Tryz.zeroCells153 153)) D Tryz.zeroCells153 153 := by rw [hDe]; exact Blk.new _ _ _
  have H0 := Lib.hid (And.intro hpa (And.intro hc0 hDb)); clear hpa hc0 hDb hp
  have HDE := Lib.hid (And.intro hDe (And.intro hSS (And.intro hMS hz)))
  go_enter Tryz.func53, Tryz.ntmps53
  go_upto_block 0 with (fail)
  rw [← hDe]
  generalize w.alloc (.cells Tryz.zeroCells153 153) = wa at *
  clear hz hDe hSS hMS hDlt
  go_wp2
  go_loopg [] res.1 (fun k wr => ∃ rem' res', Hid (PtS B g h (D :: S) wr PP MR M bd nl cur parts rem' res') ∧ Hid (Chg (D :: PP :: h.all) wa wr) ∧ Hid (∃ cs, Blk wr D cs 153 ∧ cs.size = 512) ∧ Hid (rem'.drop res'.1 = rem.drop res.1 ∧ res'.2 = res.2) ∧ res'.1 ≤ k)
  case atStart => exact ⟨rem, res, H0.out.1, Chg.refl _ _, ⟨_, H0.out.2.2, HDE.out.2.2.2⟩, ⟨rfl, rfl⟩, Nat.le_refl _⟩
  case round =>
    obtain ⟨rem', res', hpr, hcr, hbr, heq, hk⟩ := hrel
    have hpr := Lib.hid hpr.out
    have hcr := Lib.hid hcr.out
    have heq := Lib.hid heq.out
    obtain ⟨cs, hbD, hsz⟩ := hbr.out
    clear hbr
    have hrd := Lib.hid (partRead2_any (od := 0) (L := 512) (cd := 512) (hpr.out.quiet ((Chg.refl [] wr).drew)) hnl hbD.drew hDn hDB (by simp) (by omega) ⟨by omega, by omega⟩ (by omega))
    have HB := Lib.hid (And.intro hbD hsz); clear hbD hsz
    unfold PrPost at hrd
    have hna : ∀ W, (nilAhead 356 52 (.pointer (some ⟨PP, 0, none⟩)) "Read").run Tryz.prog W = .ok (some false) W := fun W => by kernel_rfl
    go_upto_region 1 with (fail)
    go_region_held3 (fun w' => True) (exact trivial) (first | (go_at_call 139; refine hrd.out.mono ?_; rintro e w3 ⟨k, ev, rfl, hkL, hkr, hev, hc3, hfill, hp3⟩; have hk3 := Lib.hid (And.intro hc3 (And.intro hfill (And.intro hp3 (And.intro hkr hev)))); clear hc3 hfill hp3 hkr))
    obtain ⟨hc3, hfill, hp3, hkr, _⟩ := hk3.out
    obtain ⟨cs3, hb3, hsz3, _⟩ := hfill
    have hbr3 : Hid (∃ cs, Blk w3 D cs 153 ∧ cs.size = 512) := ⟨cs3, hb3, hsz3.trans HB.out.2⟩
    have hp3 := Lib.hid hp3
    have hcr3 : Hid (Chg (D :: PP :: h.all) wa w3) := hcr.out.trans (((Chg.refl [] wr).drew).none.trans hc3)
    clear hc3 hb3 hsz3 hk3
    rcases hev with ⟨rfl, hk0⟩ | ⟨rfl, hkq⟩
    · go_wp2
      go_roundg (res'.1 - k)
      case measure => omega
      case rel =>
        refine ⟨rem'.drop k, (res'.1 - k, res'.2), hp3.out, hcr3, hbr3, ?_, Nat.le_refl _⟩
        refine ⟨?_, heq.out.2⟩
        simp only
        rw [List.drop_drop, show k + (res'.1 - k) = res'.1 from by omega]; exact heq.out.1
    · have HKQ := Lib.hid hkq; clear hkq
      go_wp2
      go_returns
      have hwc : Chg (PP :: h.all) w w3 := (H0.out.2.1.none.trans hcr3.out).less (fun x hx => by
        rcases List.mem_cons.1 hx with h1 | hx
        · exact .inr (by rw [h1, HDE.out.1]; exact Nat.le_refl _)
        · exact .inl hx)
      refine ⟨rfl, hwc, ?_⟩
      have hfin := hp3.out.add (S' := S) (fun x hx => .inl (by simp [hx])) HDE.out.2.1
      rw [HKQ.out, heq.out.1, Nat.sub_self, heq.out.2] at hfin
      exact hfin

set_option maxRecDepth 100000 in
set_option maxHeartbeats 1000000 in
theorem close_any {B : Nat} {g : Nat → Addr} {h : Hs} {S : List Nat} {w : World} {PP MR M : Nat} {bd nl : Bs} {cur : Value} {parts : Nat} {rem : Bs} {res : Nat × Nat} (hp : PtS B g h S w PP MR M bd nl cur parts rem res) (hnl : 0 < nl.length) :
    Calls Tryz.prog 43 #[.pointer (some ⟨PP, 0, none⟩)] w fun e w' => e = .returned .nilIface ∧ Chg (PP :: h.all) w w' ∧ PtS B g h S w' PP MR M bd nl cur parts (rem.drop res.1) (0, res.2) := by
  have hd := Lib.hid (discard_any hp hnl); clear hp
  go_enter Tryz.func43, Tryz.ntmps43
  go_wp2_with fail
  refine hd.out.mono ?_
  rintro e w' ⟨rfl, hk⟩
  have hk := Lib.hid hk
  go_wp2
  go_ret
  exact ⟨rfl, hk.out⟩
end Go.Proofs.YtekndndhgkdggaaGreatDoor
