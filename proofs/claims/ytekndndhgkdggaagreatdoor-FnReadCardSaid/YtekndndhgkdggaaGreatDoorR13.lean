/- textproto's lines that go on. textproto's key in its form, written where it lies. -/
import Derived.Test.YtekndndhgkdggaaGreatDoorR8
import Derived.Test.YtekndndhgkdggaaGreatDoorR12
import Derived.Deep.LoopGhost
import Derived.Deep.RegionLaw
import Derived.Test.YtekndndhgkdggaaGreatDoorR7
namespace Go.Proofs.YtekndndhgkdggaaGreatDoor
open Go.RowKit

/-- where textproto's reader lies, and the readers below it: all ahead of base -/
structure CtF (B : Nat) (h : Hs) (TP base : Nat) (w : World) : Prop where
  tn : TP ∉ h.all
  tb : B ≤ TP ∧ TP < base
  hb : ∀ x ∈ h.all, x < base
  le : base ≤ w.heap.size

/-- textproto's reader with a row of its own; what has turned since w -/
structure CtS (B : Nat) (g : Nat → Addr) (h : Hs) (TP base : Nat) (S : List Nat) (w wr : World) (bz : Value) (nz : Nat) (lz rem : Bs) : Prop where
  ins : ∃ r lb lr, InS B g h wr r rem .nilIface lb lr
  tp : Blk wr TP (tpc h bz) 174
  own : wr.ownsRow base 5 1 bz nz (lz.map bv)
  chg : Chg (TP :: (h.all ++ S)) w wr
  loc : ∀ k, bz.ownBlock = some k → k ∈ S ∨ w.heap.size ≤ k

theorem CtS.ob {B : Nat} {g : Nat → Addr} {h : Hs} {TP base : Nat} {S : List Nat} {w w0 wr : World} {bz : Value} {nz : Nat} {lz rem : Bs} (hs : CtS B g h TP base S w wr bz nz lz rem) (F : CtF B h TP base w0) (k : Nat) (hk : bz.ownBlock = some k) : base ≤ k ∧ k < wr.heap.size ∧ k ∉ h.all ∧ k ≠ TP := by
  obtain ⟨h1, h2⟩ := hs.own.lt k hk
  exact ⟨h1, h2, fun hm => by have := F.hb k hm; omega, fun e => by have := F.tb.2; omega⟩

theorem CtS.move {B : Nat} {g : Nat → Addr} {h : Hs} {TP base : Nat} {S : List Nat} {w wz w2 : World} {bz : Value} {nz : Nat} {lz rem rem2 : Bs} (hs : CtS B g h TP base S w wz bz nz lz rem) (F : CtF B h TP base w) (hc : Chg h.all wz w2)
    (hi : ∃ r lb lr, InS B g h w2 r rem2 .nilIface lb lr) : CtS B g h TP base S w w2 bz nz lz rem2 :=
  ⟨hi, hs.tp.chg hc F.tn, own_chg hs.own hc (fun k hk hm => (hs.ob F k hk).2.2.1 hm), hs.chg.trans (hc.mono (by intro x hx; simp [hx])), hs.loc⟩

/-- the row was written anew, and put in its place -/
theorem CtS.app {B : Nat} {g : Nat → Addr} {h : Hs} {TP base : Nat} {S : List Nat} {w wr w1 w2 : World} {bz v0 v' : Value} {nz n' : Nat} {lz l' rem : Bs} (hs : CtS B g h TP base S w wr bz nz lz rem) (F : CtF B h TP base w) (hq : Chg [] wr w1) (hv0 : v0.ownBlock = bz.ownBlock)
    (hg : w1.grownBy w2 v0.ownBlock) (ho : w2.ownsRow base 5 1 v' n' (l'.map bv)) (hl : ∀ b, v'.ownBlock = some b → v0.ownBlock = some b ∨ b = w1.heap.size) : CtS B g h TP base S w (w2.setCell ⟨TP, 2, none⟩ v') v' n' l' rem := by
  rw [hv0] at hg hl
  have hob : ∀ x ∈ bz.ownBlock.toList, base ≤ x ∧ x < wr.heap.size ∧ x ∉ h.all ∧ x ≠ TP := fun x hx => hs.ob F x (by simpa using hx)
  have hc2 : Chg bz.ownBlock.toList wr w2 := hq.none.trans (Chg.of_grown hg)
  have hcs : Chg [TP] w2 (w2.setCell ⟨TP, 2, none⟩ v') := (Chg.refl [TP] w2).setCell (.inl (by simp)) _
  have htb := F.tb
  have hi2 := hs.ins.imp fun r k => k.imp fun lb k => k.imp fun lr k => (k.draw hc2 (fun x hx => by have := hob x hx; exact ⟨by omega, this.2.2.1⟩)).draw hcs (fun x hx => by simp at hx; subst hx; exact ⟨htb.1, F.tn⟩)
  refine ⟨hi2, (hs.tp.chg hc2 (fun hm => (hob TP hm).2.2.2 rfl)).set 2 v', own_chg ho hcs (fun k hk hm => by simp at hm; subst hm; have := (ho.lt k hk).1; omega), ?_, fun k hk => ?_⟩
  · refine (hs.chg.thn hc2 (fun x hx => ?_)).trans (hcs.mono (by simp))
    rcases hs.loc x (by simpa using hx) with h1 | h1
    · exact .inl (by simp [h1])
    · exact .inr h1
  · rcases hl k hk with h1 | h1
    · exact hs.loc k h1
    · right; have := hs.chg.size; have := hq.size; omega

def CtPost (B : Nat) (g : Nat → Addr) (h : Hs) (TP base : Nat) (bz : Value) (w : World) (rem : Bs) (e : Ending) (w' : World) : Prop :=
  Chg (TP :: (h.all ++ bz.ownBlock.toList)) w w' ∧
  match headLineB rem with
  | none => e = .returned (.tuple #[.slice none 0 0, erv (g 0)])
  | some p =>
    if p.1 = [] then (∃ a c, e = .returned (.tuple #[.slice a 0 c, .nilIface])) ∧ ∃ r lb lr, InS B g h w' r p.2 .nilIface lb lr
    else if p.1.contains 58 = false then ∃ s, e = .returned (.tuple #[.slice none 0 0, perr s])
    else match contB (trimB p.1) p.2 with
      | none => e = .returned (.tuple #[.slice none 0 0, erv (g 0)])
      | some q => ∃ v r lb lr b n l, e = .returned (.tuple #[v, .nilIface]) ∧ InS B g h w' r q.2 .nilIface lb lr ∧ CtS B g h TP base bz.ownBlock.toList w w' b n l q.2 ∧ (LB h.U 0 r w' v q.1 ∨ (v = b ∧ l = q.1))

def letB (c : UInt8) : Bool := !decide (bits BinOp.or IntKind.u8 (c.toNat : Int) 32 < 97) && decide (bits BinOp.or IntKind.u8 (c.toNat : Int) 32 ≤ 122)
theorem letB_not (c : UInt8) (h : letB c = true) : blankB c = false := by
  have hn : ¬ (bits BinOp.or IntKind.u8 (c.toNat : Int) 32 < 97) := by unfold letB at h; simp at h; omega
  unfold blankB
  by_cases h1 : c = 32
  · subst h1; revert hn; decide
  · by_cases h2 : c = 9
    · subst h2; revert hn; decide
    · simp [h1, h2]

set_option maxRecDepth 100000 in
set_option maxHeartbeats 400000 in
theorem letter_val (c : UInt8) (w : World) : Calls Tryz.prog 107 #[bv c] w fun e w' => e = .returned (.bool (letB c)) ∧ w' = w := by
  by_cases hL : bits BinOp.or IntKind.u8 (c.toNat : Int) 32 < 97
  · have hv : letB c = false := by unfold letB; simp [hL]
    have HV := Lib.hid hv; clear hv
    go_enter Tryz.func107, Tryz.ntmps107
    go_wp2
    go_ret
    exact ⟨by rw [HV.out]; rfl, rfl⟩
  · have hL' : 97 ≤ bits BinOp.or IntKind.u8 (c.toNat : Int) 32 := by omega
    by_cases hR : bits BinOp.or IntKind.u8 (c.toNat : Int) 32 ≤ 122
    · have hv : letB c = true := by unfold letB; simp [hL, hR]
      have HV := Lib.hid hv; clear hv hL
      go_enter Tryz.func107, Tryz.ntmps107
      go_wp2
      go_ret
      exact ⟨by rw [HV.out]; rfl, rfl⟩
    · have hv : letB c = false := by unfold letB; simp [hL, hR]
      have hR' : 122 < bits BinOp.or IntKind.u8 (c.toNat : Int) 32 := by omega
      have hRd : decide (bits BinOp.or IntKind.u8 (c.toNat : Int) 32 ≤ 122) = false := by simp; omega
      have HV := Lib.hid hv; clear hv hL hR
      go_enter Tryz.func107, Tryz.ntmps107
      go_wp2
      go_ret
      exact ⟨by rw [HV.out]; rfl, rfl⟩

theorem own_blk_zero (a : Option Addr) (n c : Nat) : (Value.slice a 0 c).ownBlock = (Value.slice a n c).ownBlock := by cases a <;> rfl

theorem dropBl_skip {c : UInt8} {r : Bs} (h : blankB c = false) : dropBl (c :: r) = c :: r := by unfold dropBl; rw [List.dropWhile_cons_of_neg (by simp [h])]
theorem dropBl_less {c : UInt8} {r : Bs} (h : blankB c = true) : (dropBl (c :: r)).length ≤ r.length := by
  unfold dropBl; rw [List.dropWhile_cons_of_pos h]; exact dropBl_len r

set_option maxRecDepth 100000 in
set_option maxHeartbeats 8000000 in
theorem contLine_any {B : Nat} {g : Nat → Addr} {h : Hs} {TP base : Nat} {w : World} {r : Nat} {rem : Bs} {lb lr : Int} {bz : Value} {nz : Nat} {lz : Bs} (X : Int) (hX : 100000 ≤ X ∧ X ≤ 10485760) (hs : InS B g h w r rem .nilIface lb lr) (ht : Blk w TP (tpc h bz) 174) (F : CtF B h TP base w)
    (ho : w.ownsRow base 5 1 bz nz (lz.map bv)) :
    Calls Tryz.prog 100 #[.pointer (some ⟨TP, 0, none⟩), .int .i64 X, .func (.func 101) #[] #[]] w (CtPost B g h TP base bz w rem) := by
  have hl := hs.lt
  have hrl := Lib.hid (readLineSlice_any X hs ht F.tn)
  unfold RlsPost at hrl
  have hnf : ∀ W, (binOp .eql 199 (.func (.func 101) #[] #[]) .nilFunc).run Tryz.prog W = .ok (.bool false) W := fun W => by kernel_rfl
  obtain ⟨o, hoo⟩ : ∃ o, o = headLineB rem := ⟨_, rfl⟩
  have hsum : ∀ p, o = some p → p.1.length + p.2.length ≤ rem.length := fun p hp => by rw [hoo] at hp; exact headLine_sum hp
  rw [← hoo] at hrl
  have HO := Lib.hid hoo; clear hoo
  obtain ⟨a0, c0, hbz, hnc0⟩ := own_form ho
  have HS := Lib.hid (And.intro hs (And.intro ht (And.intro F ho))); clear hs ht F ho
  go_enter Tryz.func100, Tryz.ntmps100
  go_wp2_with fail
  refine hrl.out.mono ?_
  rintro e w1 ⟨hc1, r1, lb1, lr1, hm⟩
  clear hrl
  have hcT : Chg (TP :: (h.all ++ bz.ownBlock.toList)) w w1 := hc1.mono (by intro x hx; simp [hx])
  cases o with
  | none =>
    obtain ⟨rfl, hin1⟩ := hm
    have H1 := Lib.hid hcT; clear hcT hc1 hin1
    go_wp2
    go_ret2
    unfold CtPost
    rw [← HO.out]
    exact ⟨H1.out, rfl⟩
  | some p =>
    obtain ⟨hin1, hm⟩ := hm
    obtain ⟨pl, p2⟩ := p
    have hsum := hsum _ rfl
    simp only [] at hm hin1 hsum
    rcases hm with ⟨_, hbad, _⟩ | ⟨_, r0, cc, rfl, hcc, hseg, hr01⟩
    · omega
    by_cases hpl : pl = []
    · subst hpl
      have hpn : ∀ e, (∃ a c, e = .returned (.tuple #[.slice a 0 c, .nilIface])) → CtPost B g h TP base bz w rem e w1 := fun e he => by
        unfold CtPost
        rw [← HO.out]
        refine ⟨hcT, ?_⟩
        simp only [if_true]
        exact ⟨he, _, _, _, hin1⟩
      have H1 := Lib.hid hpn; clear hcT hc1 hin1 hseg hpn
      simp only [List.length_nil]
      go_wp2
      go_ret2
      exact H1.out _ ⟨_, _, rfl⟩
    · have hpos := List.length_pos_iff.2 hpl
      have hlz : ((pl.length : Int) == 0) = false := by rw [beq_eq_false_iff_ne]; omega
      have hlb : LB h.U 0 r1 w1 (.slice (some ⟨h.U, r0, none⟩) pl.length cc) pl := ⟨r0, cc, rfl, hcc, hseg, Nat.zero_le _, hr01⟩
      have hcl := Lib.hid (colon_any (hlb.bs (S := []) (by simp)))
      unfold ColonPost at hcl
      have H1 := Lib.hid (And.intro hcT (And.intro hc1 (And.intro hin1 hlb))); clear hcT hc1 hin1 hseg hlb
      have HP := Lib.hid hpl; clear hpl
      cases hct : pl.contains 58 with
      | false =>
        rw [hct] at hcl
        simp only [Bool.false_eq_true, if_false] at hcl
        go_wp2_with fail
        refine hcl.out.mono ?_
        rintro e w2 ⟨rfl, s, rfl⟩
        unfold perr
        go_wp2
        go_ret2
        unfold CtPost
        rw [← HO.out]
        refine ⟨H1.out.1, ?_⟩
        simp only [HP.out, if_false, hct, if_true]
        exact ⟨_, rfl⟩
      | true =>
        rw [hct] at hcl
        simp only [if_true] at hcl
        have hpost : ∀ e w', Chg (TP :: (h.all ++ bz.ownBlock.toList)) w w' → (match contB (trimB pl) p2 with
            | none => e = .returned (.tuple #[.slice none 0 0, erv (g 0)])
            | some q => ∃ v r lb lr b n l, e = .returned (.tuple #[v, .nilIface]) ∧ InS B g h w' r q.2 .nilIface lb lr ∧ CtS B g h TP base bz.ownBlock.toList w w' b n l q.2 ∧ (LB h.U 0 r w' v q.1 ∨ (v = b ∧ l = q.1))) → CtPost B g h TP base bz w rem e w' := fun e w' h1 h2 => by
          unfold CtPost
          rw [← HO.out]
          refine ⟨h1, ?_⟩
          simp only [HP.out, if_false, hct, Bool.true_eq_false]
          exact h2
        have HPOST := Lib.hid hpost; clear hpost hct
        have hct0 : CtS B g h TP base bz.ownBlock.toList w w bz nz lz rem := ⟨⟨_, _, _, HS.out.1⟩, HS.out.2.1, HS.out.2.2.2, Chg.refl _ _, fun k hk => .inl (by simp [hk])⟩
        have hctm : ∀ w2, Chg h.all w w2 → (∃ r lb lr, InS B g h w2 r p2 .nilIface lb lr) → CtS B g h TP base bz.ownBlock.toList w w2 bz nz lz p2 := fun w2 hc hi => hct0.move HS.out.2.2.1 hc hi
        have HCT := Lib.hid hctm; clear hctm hct0
        have hfin : ∀ w2 lb2 lr2 u, contB (trimB pl) p2 = some (trimB pl, p2) → Chg h.all w w2 → InS B g h w2 r1 p2 .nilIface lb2 lr2 → LB h.U 0 r1 w2 u (trimB pl) → CtPost B g h TP base bz w rem (.returned (.tuple #[u, .nilIface])) w2 := fun w2 lb2 lr2 u hcb hc hi hlb => by
          refine HPOST.out _ _ (hc.mono (by intro x hx; simp [hx])) ?_
          rw [hcb]
          exact ⟨u, r1, lb2, lr2, bz, nz, lz, rfl, hi, HCT.out w2 hc ⟨_, _, _, hi⟩, .inl hlb⟩
        have HFIN := Lib.hid hfin; clear hfin
        go_wp2_with fail
        refine hcl.out.mono ?_
        rintro e w2 ⟨rfl, rfl⟩
        clear hcl
        obtain ⟨t0, t1, t2, f2⟩ := tp_cells (HS.out.2.1.chg H1.out.2.1 HS.out.2.2.1.tn)
        have hin1 := H1.out.2.2.1
        obtain ⟨x, hx⟩ : ∃ x, x = r1 + p2.length := ⟨_, rfl⟩
        have hb := hin1.br
        have hlt1 := hin1.lt
        rw [← hx] at hb
        have hbuf := Lib.hid (buffered_any hb ⟨by omega, by omega⟩)
        rw [show x - r1 = p2.length from by omega] at hbuf
        clear hb hx
        obtain ⟨bb, hbb⟩ : ∃ bb, decide ((p2.length : Int) > 1) = bb := ⟨_, rfl⟩
        have HBB := Lib.hid hbb
        go_wp2_with fail
        refine hbuf.out.mono ?_
        rintro e w2 ⟨rfl, n, rfl⟩
        obtain ⟨s0, s1, s2, _⟩ := tp_cells ((HS.out.2.1.chg H1.out.2.1 HS.out.2.2.1.tn).drewN n)
        clear hbuf
        go_upto_if 42 with (fail)
        clear hbb
        go_cut [11, 12] (fun s11 s12 wz => Hid (Chg h.all w wz ∧ (∃ lb lr, InS B g h wz r1 p2 .nilIface lb lr) ∧ LB h.U 0 r1 wz (.slice (some ⟨h.U, r0, none⟩) pl.length cc) pl))
        case first =>
          have hUA : h.U ∈ h.all := by unfold Hs.all; simp
          have htr := fun (wq : World) (hq : LB h.U 0 r1 wq (.slice (some ⟨h.U, r0, none⟩) pl.length cc) pl) => Lib.hid (trim_at hq (by omega))
          have hkeep : Hid (∀ wq, Chg [h.BR] (w1.drewN n) wq → Chg h.all w wq ∧ LB h.U 0 r1 wq (.slice (some ⟨h.U, r0, none⟩) pl.length cc) pl) := fun wq hq => by
            have hne : h.U ∉ [h.BR] := by have := hin1.ok.n34; simp; omega
            refine ⟨(H1.out.2.1.drewN n).trans (hq.mono (by unfold Hs.all; simp)), (H1.out.2.2.2.chg ((Chg.refl [] w1).drewN n) (by simp)).chg hq hne⟩
          cases bb with
          | true =>
            have h2 : 2 ≤ p2.length := by have := HBB.out; simp at this; omega
            obtain ⟨c, d, r', rfl⟩ : ∃ c d r', p2 = c :: d :: r' := by
              match p2, h2 with
              | c :: d :: r', _ => exact ⟨c, d, r', rfl⟩
            have hpk := Lib.hid (peek_in (hin1.draw ((Chg.refl [] _).drewN n) (by simp)) 2 (by simp))
            go_wp2_with fail
            refine hpk.out.mono ?_
            rintro e w3 ⟨rfl, hc3, hin3⟩
            obtain ⟨hcw3, hlb3⟩ := hkeep.out w3 hc3
            have q0 : w3.cell? ⟨h.U, r1, none⟩ = some (bv c) := by simpa using hin3.seg.cell 0 (by simp)
            have q1 : w3.cell? ⟨h.U, r1 + 1, none⟩ = some (bv d) := by simpa using hin3.seg.cell 1 (by simp)
            have htr3 := htr w3 hlb3
            have H3 := Lib.hid (And.intro hcw3 (And.intro hin3 hlb3)); clear hcw3 hlb3 hc3 hin3 hin1 hpk htr s0 s1 s2
            have hend : ∀ u, blankB c = false → LB h.U 0 r1 w3 u (trimB pl) → CtPost B g h TP base bz w rem (.returned (.tuple #[u, .nilIface])) w3 := fun u hb hlb => HFIN.out w3 _ _ u (contB_stop hb) H3.out.1 H3.out.2.1 hlb
            have HEND := Lib.hid hend; clear hend
            have hlet := letter_val c w3
            have hret : letB c = true ∨ c = 10 ∨ (c = 13 ∧ d = 10) → blankB c = false := fun hh => by
              rcases hh with h1 | rfl | ⟨rfl, _⟩
              · exact letB_not c h1
              · rfl
              · rfl
            have HRET := Lib.hid hret; clear hret
            obtain ⟨b, hb⟩ : ∃ b, letB c = b := ⟨_, rfl⟩
            rw [hb] at hlet
            have HB := Lib.hid hb; clear hb
            obtain ⟨b10, hb10⟩ : ∃ b10, ((c.toNat : Int) == 10) = b10 := ⟨_, rfl⟩
            obtain ⟨b13, hb13⟩ : ∃ b13, ((c.toNat : Int) == 13) = b13 := ⟨_, rfl⟩
            obtain ⟨d10, hd10⟩ : ∃ d10, ((d.toNat : Int) == 10) = d10 := ⟨_, rfl⟩
            have H10 := Lib.hid hb10
            have H13 := Lib.hid hb13
            have HD10 := Lib.hid hd10
            by_cases hyes : b = true ∨ b10 = true ∨ (b13 = true ∧ d10 = true)
            · have hbl : blankB c = false := HRET.out (by
                rcases hyes with h1 | h1 | ⟨h1, h3⟩
                · exact .inl (by rw [HB.out, h1])
                · right; left
                  by_cases h : c = 10
                  · exact h
                  · have h9 : ((c.toNat : Int) == 10) = false := bv_ne 10 _ rfl h
                    rw [H10.out, h1] at h9; cases h9
                · right; right
                  constructor
                  · by_cases h : c = 13
                    · exact h
                    · have h9 : ((c.toNat : Int) == 13) = false := bv13 h
                      rw [H13.out, h1] at h9; cases h9
                  · by_cases h : d = 10
                    · exact h
                    · have h9 : ((d.toNat : Int) == 10) = false := bv_ne 10 _ rfl h
                      rw [HD10.out, h3] at h9; cases h9)
              have HBL := Lib.hid hbl; clear hbl
              cases b <;> cases b10 <;> cases b13 <;> cases d10 <;> first
                | (exfalso; simp at hyes; done)
                | (clear hyes
                   go_wp2_with (first
                     | (go_at_call 107; refine hlet.mono ?_; rintro e w4 ⟨rfl, rfl⟩)
                     | (go_at_call 108; refine htr3.out.mono ?_; rintro e w4 ⟨⟨u, rfl, hu⟩, rfl⟩; obtain ⟨o3, c3, rfl, hlc3, hseg3, ho3, ho4⟩ := hu)
                     | fail)
                   go_ret2
                   exact HEND.out _ HBL.out ⟨o3, c3, rfl, hlc3, hseg3, ho3, ho4⟩)
            · cases b <;> cases b10 <;> cases b13 <;> cases d10 <;> first
                | (exfalso; simp at hyes; done)
                | (clear hyes
                   go_wp2_with (first
                     | (go_at_call 107; refine hlet.mono ?_; rintro e w4 ⟨rfl, rfl⟩)
                     | fail)
                   go_meet
                   exact ⟨H3.out.1, ⟨_, _, H3.out.2.1⟩, H3.out.2.2⟩)
          | false =>
            go_wp2
            go_meet
            exact ⟨H1.out.2.1.drewN n, ⟨_, _, H1.out.2.2.1.draw ((Chg.refl [] _).drewN n) (by simp)⟩, H1.out.2.2.2.chg ((Chg.refl [] _).drewN n) (by simp)⟩
        case rest =>
          clear t0 t1 t2 f2 s0 s1 s2 hin1 hlt1
          obtain ⟨hcw, ⟨lb2, lr2, hin2⟩, hlb2⟩ := hcut
          have hct := HCT.out wc hcw ⟨_, _, _, hin2⟩
          subst hbz
          have F := HS.out.2.2.1
          have htn : TP ∉ (Value.slice a0 0 c0).ownBlock.toList := fun hm => (hct.ob F TP (by rw [own_blk_zero a0 nz c0] at hm; simpa using hm)).2.2.2 rfl
          have hd : Chg [] wc wc.drew := (Chg.refl _ _).drew
          have htd := hct.tp.chg hd (by simp)
          obtain ⟨t0, t1, t2, f2⟩ := tp_cells htd
          have sl0 : ∀ wy, (Instr.slice 22 (.slice a0 nz c0) none (some (.int .i64 0)) none).run Tryz.prog wy = .ok (.slice a0 0 c0) wy := fun wy => slice22_h a0 nz c0 .i64 0 (by omega) (by omega) wy
          have hown0 := own_chg (own_zero hct.own) hd (by simp)
          have htr := Lib.hid (trim_at (hlb2.chg hd (by simp)) (by omega))
          have hbase : base ≤ wc.drew.heap.size := by have := F.le; have := hcw.size; have := hd.size; omega
          have htl := trimB_len pl
          have hb0 : 0 + (trimB pl).length ≤ 1000000 := by omega
          have hl3 : pl.length + p2.length ≤ 3000 := by omega
          have HT := Lib.hid (And.intro hct (And.intro hd (And.intro htd htn))); clear hct hd htd htn hcw hin2 hlb2 HCT HFIN
          generalize hkv : trimB pl = kv at *
          have HKV := Lib.hid hkv; clear hkv
          go_upto_region 16 with (fail)
          go_cut [] (fun wz => ∃ v n, Hid (CtS B g h TP base (Value.slice a0 nz c0).ownBlock.toList w wz v n kv p2))
          case first =>
            go_wp2
            go_region_law (first
              | (refine step_app_bytes rfl (.tmp 90) (.tmp 92) rfl base (.slice a0 0 c0) 0 [] rfl hown0 [] _ kv rfl hu2 hb0 hbase ?_; intro v7 w7 ho7 hg7 hloc7; rw [Nat.zero_add, List.nil_append] at ho7; obtain ⟨a7, c7, rfl, hac7⟩ := own_form ho7; obtain ⟨e0, e1, e2, ef⟩ := tp_cells (HT.out.2.2.1.chg (Chg.of_grown hg7) HT.out.2.2.2); have hct7 := Lib.hid (HT.out.1.app HS.out.2.2.1 HT.out.2.1 (own_blk_zero a0 nz c0) hg7 ho7 hloc7); clear ho7 hg7 hloc7)
              | (go_simp; go_at_call 108; refine htr.out.mono ?_; rintro e w3 ⟨⟨u, rfl, hu⟩, rfl⟩; have hu2 := hu.bs (S := []) (by simp); obtain ⟨o3, c3, rfl, _, _, _, _⟩ := hu))
            all_goals
              go_wp2
              go_meet
              exact ⟨_, _, hct7.out⟩
          case rest =>
            clear t0 t1 t2 f2 hown0 htr hbase sl0 HT
            obtain ⟨v1, n1, hct1⟩ := hcut
            have hct1 : CtS B g h TP base (Value.slice a0 nz c0).ownBlock.toList w wc v1 n1 kv p2 := hct1
            obtain ⟨a1, c1, rfl, hnc1⟩ := own_form hct1.own
            have hn1 : kv.length = n1 := by have := hct1.own.1; simpa using this
            obtain ⟨t0, t1, t2, f2⟩ := tp_cells hct1.tp
            obtain ⟨X1, hX1⟩ : ∃ X1, X1 = X - (n1 : Int) := ⟨_, rfl⟩
            have hwr : IntKind.i64.wrap (X - (n1 : Int)) = X1 := by rw [IntWalk.i64_in _ (by omega)]; omega
            have hwn : IntKind.i64.wrap (n1 : Int) = (n1 : Int) := IntWalk.i64_in _ (by omega)
            have hX0 : decide (X < 0) = false := by simp; omega
            have hX9 : 90000 ≤ X1 ∧ X1 ≤ 10485760 := by omega
            have H1c := Lib.hid hct1; clear hct1
            have hXh := Lib.hid hX1; clear hX1
            go_wp2
            go_loopg [] p2.length (fun k wr => ∃ (v : Value) (n : Nat) (l remq : Bs), Hid (CtS B g h TP base (Value.slice a0 nz c0).ownBlock.toList w wr v n l remq) ∧ Hid (contB l remq = contB kv p2) ∧ remq.length ≤ k ∧ n + remq.length ≤ 3000)
            case atStart => exact ⟨_, _, kv, p2, H1c.out, rfl, Nat.le_refl _, by omega⟩
            case round =>
              clear H1c hn1 t0 t1 t2 f2 hwr hwn hX0
              obtain ⟨v, n, l, remq, hct, hcb, hk, hn3⟩ := hrel
              have hct : CtS B g h TP base (Value.slice a0 nz c0).ownBlock.toList w wr v n l remq := hct
              have F := HS.out.2.2.1
              obtain ⟨a, c, rfl, hnc⟩ := own_form hct.own
              obtain ⟨rq, lbq, lrq, hinq⟩ := hct.ins
              have hsk := Lib.hid (skipSpace_any hinq hct.tp F.tn); clear hinq
              obtain ⟨cnt, hcnt⟩ : ∃ cnt, cnt = remq.length - (dropBl remq).length := ⟨_, rfl⟩
              rw [← hcnt] at hsk
              have hcase : (cnt = 0 ∧ dropBl remq = remq ∧ contB l remq = some (l, remq)) ∨ (0 < cnt ∧ (dropBl remq).length < remq.length ∧ (headLineB (dropBl remq) = none → contB l remq = none) ∧ ∀ m r2, headLineB (dropBl remq) = some (m, r2) → contB l remq = contB (l ++ [32] ++ trimB m) r2) := by
                cases remq with
                | nil => exact .inl ⟨by rw [hcnt]; rfl, rfl, contB_nil l⟩
                | cons d r =>
                  cases hbd : blankB d with
                  | false => exact .inl ⟨by rw [hcnt, dropBl_skip hbd]; simp, dropBl_skip hbd, contB_stop hbd⟩
                  | true =>
                    have := dropBl_less (r := r) hbd
                    exact .inr ⟨by simp only [List.length_cons] at hcnt; omega, by simp only [List.length_cons]; omega, fun hh => contB_early hbd hh, fun m r2 hh => contB_more hbd hh⟩
              have hcnt3 : cnt ≤ 3000 := by omega
              have HCB := Lib.hid hcb; clear hcnt hcb
              have HC := Lib.hid hct; clear hct
              go_wp2_with fail
              refine hsk.out.mono ?_
              rintro e w2 ⟨rfl, hc2, hin2⟩
              have hct2 := HC.out.move F hc2 hin2
              obtain ⟨t0, t1, t2, f2⟩ := tp_cells hct2.tp
              clear hsk
              rcases hcase with ⟨rfl, hdr, hcx⟩ | ⟨hc0, hdl, hce, hcm⟩
              · have HZ := Lib.hid (And.intro hct2 (And.intro hin2 (And.intro hdr hcx))); clear hct2 hin2 hdr hcx hc2
                go_wp2
                go_ret2
                obtain ⟨hct2, ⟨r2, lb2, lr2, hin2⟩, hdr, hcx⟩ := HZ.out
                rw [hdr] at hin2 hct2
                refine HPOST.out _ _ hct2.chg ?_
                rw [← HCB.out, hcx]
                exact ⟨_, r2, lb2, lr2, _, _, _, rfl, hin2, hct2, .inr ⟨rfl, rfl⟩⟩
              · have hg0 : decide ((cnt : Int) > 0) = true := by simp; omega
                obtain ⟨nn, hnn⟩ : ∃ nn, nn = n + 1 := ⟨_, rfl⟩
                obtain ⟨Y, hY⟩ : ∃ Y, Y = X1 - (nn : Int) := ⟨_, rfl⟩
                have hwY : IntKind.i64.wrap (X1 - (nn : Int)) = Y := by rw [IntWalk.i64_in _ (by omega)]; omega
                have hwn : IntKind.i64.wrap (nn : Int) = (nn : Int) := IntWalk.i64_in _ (by omega)
                have hge : decide ((nn : Int) ≥ X1) = false := by simp; omega
                have hge2 : ¬ (X1 ≤ (nn : Int)) := by omega
                have hq : Chg [] w2 (w2.alloc (.cells #[.int .u8 32] 5)) := (Chg.refl [] w2).alloc _
                have hown2 := own_chg hct2.own hq (by simp)
                have hbs : BS [] (w2.alloc (.cells #[.int .u8 32] 5)) (.slice (some ⟨w2.heap.size, 0, none⟩) 1 1) [32] := by
                  refine BS.of_seg ⟨by simp, fun i hi => ?_⟩ rfl (Nat.le_refl _) (by simp)
                  have : i = 0 := by simp at hi; omega
                  subst this
                  rw [(Blk.new w2 #[.int .u8 32] 5).cell]; rfl
                have hbase : base ≤ (w2.alloc (.cells #[.int .u8 32] 5)).heap.size := by have := F.le; have := hct2.chg.size; simp; omega
                have hb1 : n + ([32] : Bs).length ≤ 1000000 := by simp; omega
                have htn : TP ∉ (Value.slice a n c).ownBlock.toList := fun hm => (hct2.ob F TP (by simpa using hm)).2.2.2 rfl
                have htq := hct2.tp.chg hq (by simp)
                have HZ := Lib.hid (And.intro hct2 (And.intro hq (And.intro htn (And.intro htq (And.intro hdl (And.intro hce (And.intro hcm (And.intro hY hnn)))))))); clear hct2 hin2 hdl hce hcm hc2 hq htn htq hY hnn
                go_wp2_with (first
                  | (at_builtin; (refine wpl_app_bytes2 rfl (.tmp 112) (.tmp 113) rfl base (.slice a n c) n l rfl hown2 [] _ [32] rfl hbs hb1 hbase ?_; intro v7 w7 ho7 hg7 hloc7; have ho7 : w7.ownsRow base 5 1 v7 nn ((l ++ [32]).map bv) := (by rw [HZ.out.2.2.2.2.2.2.2.2]; exact ho7); obtain ⟨a7, c7, rfl, hnc7⟩ := own_form ho7; obtain ⟨e0, e1, e2, ef⟩ := tp_cells (HZ.out.2.2.2.1.chg (Chg.of_grown hg7) HZ.out.2.2.1); have hct7 := Lib.hid (HZ.out.1.app HS.out.2.2.1 HZ.out.2.1 rfl hg7 ho7 hloc7); obtain ⟨d0, d1, d2, df⟩ := tp_cells hct7.out.tp; clear ho7 hg7 hloc7 hown2 hbs))
                  | fail)
                obtain ⟨r7, lb7, lr7, hin7⟩ := hct7.out.ins
                have hrl7 := Lib.hid (readLineSlice_any Y hin7 hct7.out.tp F.tn)
                unfold RlsPost at hrl7
                refine hrl7.out.mono ?_
                rintro e w9 ⟨hc9, r9, lb9, lr9, hm9⟩
                have hdl := HZ.out.2.2.2.2.1
                have hce := HZ.out.2.2.2.2.2.1
                have hcm := HZ.out.2.2.2.2.2.2.1
                have hY : Y = X1 - (nn : Int) ∧ nn = n + 1 := HZ.out.2.2.2.2.2.2.2
                have hYn : 3000 < Y ∧ nn ≤ 3001 := by omega
                have hYc : nn + (dropBl remq).length ≤ 3000 := by omega
                clear hY
                clear hin7 hrl7 d0 d1 d2 df e0 e1 e2 ef
                obtain ⟨o9, ho9⟩ : ∃ o9, o9 = headLineB (dropBl remq) := ⟨_, rfl⟩
                rw [← ho9] at hm9 hce hcm
                have hs9 : ∀ q, o9 = some q → q.1.length + q.2.length ≤ (dropBl remq).length := fun q hq => by rw [ho9] at hq; exact headLine_sum hq
                clear ho9
                cases o9 with
                | none =>
                  obtain ⟨rfl, hin9⟩ := hm9
                  have hct9 := hct7.out.move F hc9 ⟨_, _, _, hin9⟩
                  have hce := hce rfl
                  have H9 := Lib.hid (And.intro hct9 hce); clear hct9 hce hin9 hc9 hcm hs9
                  go_wp2
                  go_ret2
                  refine HPOST.out _ _ H9.out.1.chg ?_
                  rw [← HCB.out, H9.out.2]
                  exact rfl
                | some p9 =>
                  obtain ⟨m9, rem9⟩ := p9
                  obtain ⟨hin9, hm9⟩ := hm9
                  have hs9 := hs9 _ rfl
                  simp only [] at hm9 hin9 hs9
                  rcases hm9 with ⟨_, hbad, _⟩ | ⟨_, r0', cc', rfl, hcc', hseg9, hr09⟩
                  · omega
                  have hct9 := hct7.out.move F hc9 ⟨_, _, _, hin9⟩
                  have hcm := hcm _ _ rfl
                  have hlb9 : LB h.U 0 r9 w9 (.slice (some ⟨h.U, r0', none⟩) m9.length cc') m9 := ⟨r0', cc', rfl, hcc', hseg9, Nat.zero_le _, hr09⟩
                  have htl9 := trimB_len m9
                  have hd9 : Chg [] w9 w9.drew := (Chg.refl _ _).drew
                  have htr9 := Lib.hid (trim_at (hlb9.chg hd9 (by simp)) (by omega))
                  have ht9 := hct9.tp.chg hd9 (by simp)
                  obtain ⟨k0, k1, k2, kf⟩ := tp_cells ht9
                  have hown9 := own_chg hct9.own hd9 (by simp)
                  have hbase9 : base ≤ w9.drew.heap.size := by have := F.le; have := hct9.chg.size; have := hd9.size; omega
                  have hb9 : nn + (trimB m9).length ≤ 1000000 := by omega
                  have htn9 : TP ∉ (Value.slice a7 nn c7).ownBlock.toList := fun hm => (hct9.ob F TP (by simpa using hm)).2.2.2 rfl
                  have hmes : rem9.length < gk := by omega
                  have hnum : nn + (trimB m9).length + rem9.length ≤ 3000 := by omega
                  have H9 := Lib.hid (And.intro hct9 (And.intro hcm (And.intro hd9 (And.intro ht9 htn9)))); clear hct9 hcm hd9 ht9 htn9 hlb9 hseg9 hc9 hin9 hce hs9 hct7
                  go_upto_region 26 with (fail)
                  go_region_law (first
                    | (refine step_app_bytes rfl (.tmp 144) (.tmp 146) rfl base (.slice a7 nn c7) nn (l ++ [32]) rfl hown9 [] _ (trimB m9) rfl hu2 hb9 hbase9 ?_; intro v8 w8 ho8 hg8 hloc8; obtain ⟨a8, c8, rfl, hac8⟩ := own_form ho8; obtain ⟨j0, j1, j2, jf⟩ := tp_cells (H9.out.2.2.2.1.chg (Chg.of_grown hg8) H9.out.2.2.2.2); have hct8 := Lib.hid (H9.out.1.app HS.out.2.2.1 H9.out.2.2.1 rfl hg8 ho8 hloc8); clear ho8 hg8 hloc8)
                    | (go_simp; go_at_call 108; refine htr9.out.mono ?_; rintro e w3 ⟨⟨u, rfl, hu⟩, rfl⟩; have hu2 := hu.bs (S := []) (by simp); obtain ⟨o3, c3, rfl, _, _, _, _⟩ := hu))
                  all_goals
                    go_wp2
                    go_roundg rem9.length
                  case measure => exact hmes
                  case rel => exact ⟨_, _, l ++ [32] ++ trimB m9, rem9, hct8.out, H9.out.2.1.symm.trans HCB.out, Nat.le_refl _, hnum⟩
                  case measure => exact hmes
                  case rel => exact ⟨_, _, l ++ [32] ++ trimB m9, rem9, hct8.out, H9.out.2.1.symm.trans HCB.out, Nat.le_refl _, hnum⟩
end Go.Proofs.YtekndndhgkdggaaGreatDoor

namespace Go.Proofs.YtekndndhgkdggaaGreatDoor
open Go.RowKit

/-- Block b, whole as it was but for l's place, where l lies now. -/
def Held (w : World) (b o : Nat) (T : TypeId) (cs : Array Value) (l : Bs) : Prop :=
  ∃ cs', Blk w b cs' T ∧ cs'.size = cs.size ∧ (∀ i, i < l.length → cs'[o + i]? = some (bv (l.getD i 0))) ∧ ∀ i, i < o ∨ o + l.length ≤ i → cs'[i]? = cs[i]?

theorem Held.seg {w : World} {b o : Nat} {T : TypeId} {cs : Array Value} {l : Bs} (h : Held w b o T cs l) : Seg w b o l := by
  obtain ⟨cs', hb, _, hi, _⟩ := h
  exact ⟨hb.lt, fun i hl => by rw [hb.cell]; exact hi i hl⟩
theorem Held.free {w : World} {b o : Nat} {T : TypeId} {cs : Array Value} {l : Bs} (h : Held w b o T cs l) (i : Nat) : w.frozen? ⟨b, i, none⟩ = false := by
  obtain ⟨cs', hb, _, _, _⟩ := h
  exact hb.free i
theorem Held.chg {S : List Nat} {w w' : World} {b o : Nat} {T : TypeId} {cs : Array Value} {l : Bs} (h : Held w b o T cs l) (hc : Chg S w w') (hn : b ∉ S) : Held w' b o T cs l := by
  obtain ⟨cs', hb, r⟩ := h
  exact ⟨cs', hb.chg hc hn, r⟩
theorem Held.set {w : World} {b o : Nat} {T : TypeId} {cs : Array Value} {l : Bs} (h : Held w b o T cs l) (k : Nat) (hk : k < l.length) (d : UInt8) : Held (w.setCell ⟨b, o + k, none⟩ (bv d)) b o T cs (l.set k d) := by
  obtain ⟨cs', hb, hsz, hi, hout⟩ := h
  refine ⟨_, hb.set (o + k) (bv d), by simpa using hsz, fun i hl => ?_, fun i hl => ?_⟩
  · have hl' : i < l.length := by simpa using hl
    have hik := hi i hl'
    have hlt : o + i < cs'.size := by
      rcases Nat.lt_or_ge (o + i) cs'.size with h | h
      · exact h
      · rw [Array.getElem?_eq_none h] at hik; cases hik
    by_cases he : i = k
    · subst he
      rw [Array.getElem?_setIfInBounds_self_of_lt hlt]; simp [List.getD, hk]
    · rw [Array.getElem?_setIfInBounds_ne (by omega), hik]
      simp [List.getD, Ne.symm he]
  · rw [Array.getElem?_setIfInBounds_ne (by simp at hl; omega)]
    exact hout i (by simpa using hl)

theorem set_at (out r : Bs) (x d : UInt8) : (out ++ x :: r).set out.length d = (out ++ [d]) ++ r := by
  simp

def CkPost (w : World) (b o : Nat) (T : TypeId) (cs : Array Value) (l : Bs) (e : Ending) (w' : World) : Prop :=
  Chg [b] w w' ∧ (∃ l', l'.length = l.length ∧ Held w' b o T cs l') ∧
  if l = [] ∨ keyB l = none then ∃ s, e = .returned (.tuple #[.string s, .bool false]) else ∃ k, keyB l = some k ∧ e = .returned (.tuple #[.string (bstr k), .bool true])

set_option maxRecDepth 100000 in
set_option maxHeartbeats 4000000 in
theorem canonKey_any {w : World} {b o c : Nat} {T : TypeId} {cs : Array Value} {l : Bs} (h : Held w b o T cs l) (hlc : l.length ≤ c) (hl : l.length ≤ 100000) :
    Calls Tryz.prog 94 #[.slice (some ⟨b, o, none⟩) l.length c] w (CkPost w b o T cs l) := by
  obtain ⟨N, hN⟩ : ∃ N, N = l.length := ⟨_, rfl⟩
  rw [← hN] at hlc hl ⊢
  generalize hres : keyB l = res
  have hres1 : (if l.all keyOkB then some (if l.contains 32 then l else canonB true l) else none) = res := hres
  have HR := Lib.hid (And.intro hres hres1); clear hres hres1
  have H := Lib.hid (And.intro h hN); clear h
  by_cases hl0 : l = []
  · subst hl0
    have hN0 : N = 0 := hN
    clear hN
    subst hN0
    go_enter Tryz.func94, Tryz.ntmps94
    go_wp2
    go_ret2
    refine ⟨Chg.refl _ _, ⟨_, rfl, H.out.1⟩, ?_⟩
    rw [if_pos (.inl rfl)]
    exact ⟨_, rfl⟩
  have hlb : l.length ≤ 100000 := by omega
  have hNz : ((N : Int) == 0) = false := by rw [beq_eq_false_iff_ne]; have := List.length_pos_iff.2 hl0; omega
  have HL0 := Lib.hid hl0; clear hl0 hN
  go_enter Tryz.func94, Tryz.ntmps94
  go_wp2
  go_loop [4, 15] (fun s i => ∃ k : Nat, k ≤ N ∧ i = .int .i64 k ∧ s = .bool ((l.take k).contains 32) ∧ AllB keyOkB l k) (fun _ i => N - (intOf i).toNat)
  case atStart => exact ⟨0, Nat.zero_le _, rfl, by simp, AllB.zero _ _⟩
  case round =>
    obtain ⟨k, hk, rfl, rfl, hall⟩ := hrel
    by_cases hlt : k < N
    · have hlt' : k < l.length := by rw [← H.out.2]; exact hlt
      have hcell := H.out.1.seg.cell k hlt'
      have hts := take_succ_contains l k 32 hlt'
      generalize hd : l.getD k 0 = d at hcell hts
      have HD := Lib.hid (And.intro hd hlt'); clear hd hlt'
      have HTS := Lib.hid hts; clear hts
      generalize hsp : (l.take k).contains 32 = sp at *
      clear hsp
      cases htok : tokenB d
      · have HTK := Lib.hid htok; clear htok
        by_cases he : d = 32
        · have ht : ((d.toNat : Int) == 32) = true := bv_eq 32 32 rfl he
          have HE := Lib.hid he; clear he
          go_wp2_with fail
          refine (validField_any d _).mono ?_
          rintro e w' ⟨rfl, rfl⟩
          rw [HTK.out]
          go_wp2
          go_round
          case rel => exact ⟨k + 1, by omega, by go_num, by rw [HTS.out, HE.out]; simp, hall.succ (by rw [HD.out.1, HE.out]; rfl)⟩
          case measure => simp [intOf]; omega
        · have ht : ((d.toNat : Int) == 32) = false := bv_ne 32 32 rfl he
          have he2 : (d == 32) = false := by simpa using he
          have HE := Lib.hid he2; clear he he2
          have hconv := conv22_9 (BS.of_seg (S := []) (c := c) H.out.1.seg H.out.2.symm hlc (by simp))
          go_wp2_with fail
          refine (validField_any d _).mono ?_
          rintro e w' ⟨rfl, rfl⟩
          rw [HTK.out]
          go_wp2
          go_ret2
          refine ⟨Chg.refl _ _, ⟨_, rfl, H.out.1⟩, ?_⟩
          rw [if_pos (.inr (by rw [HR.out.1, ← HR.out.2, not_all (k := k) HD.out.2 (by rw [HD.out.1]; unfold keyOkB; rw [HE.out, HTK.out]; rfl)]; rfl))]
          exact ⟨_, rfl⟩
      · have HTK := Lib.hid htok; clear htok
        have he32 : (d == 32) = false := by
          rw [beq_eq_false_iff_ne]; intro e; have := HTK.out; rw [e] at this; revert this; decide
        have HE := Lib.hid he32; clear he32
        go_wp2_with fail
        refine (validField_any d _).mono ?_
        rintro e w' ⟨rfl, rfl⟩
        rw [HTK.out]
        go_wp2
        go_round
        case rel => exact ⟨k + 1, by omega, by go_num, by rw [HTS.out, HE.out]; simp, hall.succ (by rw [HD.out.1]; unfold keyOkB; rw [HE.out, HTK.out]; rfl)⟩
        case measure => simp [intOf]; omega
    · have hke : k = N := by omega
      subst hke
      obtain rfl : k = l.length := H.out.2
      have hallt := AllB.all hall
      rw [List.take_length] at *
      have HA := Lib.hid hallt
      clear hall hallt
      cases hsp : l.contains 32
      · have HSP := Lib.hid hsp; clear hsp
        go_wp2
        go_loopw [7, 31] (fun u i wr => ∃ (k : Nat) (out : Bs) (up : Bool), k ≤ l.length ∧ i = .int .i64 k ∧ u = .bool up ∧ Hid (out ++ canonB up (l.drop k) = canonB true l) ∧ out.length = k ∧ Hid (Held wr b o T cs (out ++ l.drop k)) ∧ Chg [b] w wr) (fun _ i _ => l.length - (intOf i).toNat)
        case atStart => exact ⟨0, [], true, Nat.zero_le _, rfl, rfl, rfl, rfl, H.out.1, Chg.refl _ _⟩
        case round =>
          obtain ⟨k, out, up, hk, rfl, rfl, hcan, hok, hold, hch⟩ := hrel
          have hold := Lib.hid hold.out
          by_cases hlt : k < l.length
          · have hstep := fun d hd => canon_step up l k hlt out _ hcan.out d hd
            have hdc := drop_at hlt
            generalize hd : l.getD k 0 = d at hdc hstep
            rw [hdc] at hold
            have hcell : wr.cell? ⟨b, o + k, none⟩ = some (bv d) := by
              have := hold.out.seg.cell k (by simp; omega)
              rw [this]
              simp [List.getD, List.getElem?_append_right (by omega : out.length ≤ k), hok]
            have hfr : wr.frozen? ⟨b, o + k, none⟩ = false := hold.out.free _
            have HST := Lib.hid hstep
            clear hd hdc hstep
            have h255 : (d.toNat : Int) ≤ 255 := by have := d.toNat_lt; omega
            have e1 := u8ge d 97 97 rfl
            have e2 := u8le d 122 122 rfl
            have e3 := u8ge d 65 65 rfl
            have e4 := u8le d 90 90 rfl
            have E := Lib.hid (And.intro e1 (And.intro e2 (And.intro e3 e4))); clear e1 e2 e3 e4
            cases up
            · by_cases hr : 65 ≤ (d.toNat : Int) ∧ (d.toNat : Int) ≤ 90
              · obtain ⟨r1, r2⟩ := hr
                obtain ⟨d2, hd2, hdd⟩ : ∃ d2 : UInt8, d2 = d + 32 ∧ (d.toNat : Int) + 32 = d2.toNat := ⟨d + 32, rfl, by have := add32 d r2; simp only [bv, Value.int.injEq, true_and] at this; exact this⟩
                have HD2 := Lib.hid hd2; clear hd2
                have hfin := u8i d2 45 45 rfl
                have hset := Lib.hid (hold.out.set k (by simp; omega) d2)
                go_wp2
                go_roundw
                case rel =>
                  refine ⟨k + 1, out ++ [d2], d2 == 45, by omega, by go_num, rfl, HST.out d2 (by rw [HD2.out, E.out.2.2.1, E.out.2.2.2]; simp [r1, r2]), by simp; omega, ?_, hch.setCell (.inl (by simp)) _⟩
                  have := hset.out
                  rw [show (out ++ d :: l.drop (k + 1)).set k d2 = (out ++ [d2]) ++ l.drop (k + 1) from by rw [← hok]; exact set_at _ _ _ _] at this
                  exact this
                case measure => simp [intOf]; omega
              · have hr2 : (d.toNat : Int) < 65 ∨ 90 < (d.toNat : Int) := by omega
                have HR2 := Lib.hid hr; clear hr
                rcases hr2 with r1 | r1
                · skip
                  have hfin := u8i d 45 45 rfl
                  have hset := Lib.hid (hold.out.set k (by simp; omega) d)
                  go_wp2
                  go_roundw
                  case rel =>
                    refine ⟨k + 1, out ++ [d], d == 45, by omega, by go_num, rfl, HST.out d (by have := HR2.out; rw [E.out.2.2.1, E.out.2.2.2]; simp; omega), by simp; omega, ?_, hch.setCell (.inl (by simp)) _⟩
                    have := hset.out
                    rw [show (out ++ d :: l.drop (k + 1)).set k d = (out ++ [d]) ++ l.drop (k + 1) from by rw [← hok]; exact set_at _ _ _ _] at this
                    exact this
                  case measure => simp [intOf]; omega
                · skip
                  have hfin := u8i d 45 45 rfl
                  have hset := Lib.hid (hold.out.set k (by simp; omega) d)
                  go_wp2
                  go_roundw
                  case rel =>
                    refine ⟨k + 1, out ++ [d], d == 45, by omega, by go_num, rfl, HST.out d (by have := HR2.out; rw [E.out.2.2.1, E.out.2.2.2]; simp; omega), by simp; omega, ?_, hch.setCell (.inl (by simp)) _⟩
                    have := hset.out
                    rw [show (out ++ d :: l.drop (k + 1)).set k d = (out ++ [d]) ++ l.drop (k + 1) from by rw [← hok]; exact set_at _ _ _ _] at this
                    exact this
                  case measure => simp [intOf]; omega
            · by_cases hr : 97 ≤ (d.toNat : Int) ∧ (d.toNat : Int) ≤ 122
              · obtain ⟨r1, r2⟩ := hr
                obtain ⟨d2, hd2, hdd⟩ : ∃ d2 : UInt8, d2 = d - 32 ∧ (d.toNat : Int) - 32 = d2.toNat := ⟨d - 32, rfl, by have := sub32 d r1; simp only [bv, Value.int.injEq, true_and] at this; exact this⟩
                have HD2 := Lib.hid hd2; clear hd2
                have hfin := u8i d2 45 45 rfl
                have hset := Lib.hid (hold.out.set k (by simp; omega) d2)
                go_wp2
                go_roundw
                case rel =>
                  refine ⟨k + 1, out ++ [d2], d2 == 45, by omega, by go_num, rfl, HST.out d2 (by rw [HD2.out, E.out.1, E.out.2.1]; simp [r1, r2]), by simp; omega, ?_, hch.setCell (.inl (by simp)) _⟩
                  have := hset.out
                  rw [show (out ++ d :: l.drop (k + 1)).set k d2 = (out ++ [d2]) ++ l.drop (k + 1) from by rw [← hok]; exact set_at _ _ _ _] at this
                  exact this
                case measure => simp [intOf]; omega
              · have hr2 : (d.toNat : Int) < 97 ∨ 122 < (d.toNat : Int) := by omega
                have HR2 := Lib.hid hr; clear hr
                rcases hr2 with r1 | r1
                · skip
                  have hfin := u8i d 45 45 rfl
                  have hset := Lib.hid (hold.out.set k (by simp; omega) d)
                  go_wp2
                  go_roundw
                  case rel =>
                    refine ⟨k + 1, out ++ [d], d == 45, by omega, by go_num, rfl, HST.out d (by have := HR2.out; rw [E.out.1, E.out.2.1]; simp; omega), by simp; omega, ?_, hch.setCell (.inl (by simp)) _⟩
                    have := hset.out
                    rw [show (out ++ d :: l.drop (k + 1)).set k d = (out ++ [d]) ++ l.drop (k + 1) from by rw [← hok]; exact set_at _ _ _ _] at this
                    exact this
                  case measure => simp [intOf]; omega
                · skip
                  have hfin := u8i d 45 45 rfl
                  have hset := Lib.hid (hold.out.set k (by simp; omega) d)
                  go_wp2
                  go_roundw
                  case rel =>
                    refine ⟨k + 1, out ++ [d], d == 45, by omega, by go_num, rfl, HST.out d (by have := HR2.out; rw [E.out.1, E.out.2.1]; simp; omega), by simp; omega, ?_, hch.setCell (.inl (by simp)) _⟩
                    have := hset.out
                    rw [show (out ++ d :: l.drop (k + 1)).set k d = (out ++ [d]) ++ l.drop (k + 1) from by rw [← hok]; exact set_at _ _ _ _] at this
                    exact this
                  case measure => simp [intOf]; omega
          · have hke : k = l.length := by omega
            clear hlt
            have hold2 := hold.out
            rw [hke, List.drop_length, List.append_nil] at hold2
            have hholdf := Lib.hid hold2; clear hold2 hold
            have hcan := hcan.out
            rw [hke, List.drop_length, show canonB up [] = [] from rfl, List.append_nil] at hcan
            have hol : out.length = l.length := by omega
            have hconv := conv22_9 (BS.of_seg (S := []) (c := c) hholdf.out.seg hol hlc (by simp))
            have HC := Lib.hid (And.intro hcan hol); clear hcan hol hok
            subst hke
            go_wp2
            go_ret2
            refine ⟨hch, ⟨_, HC.out.2, hholdf.out⟩, ?_⟩
            have hkb : keyB l = some out := by rw [HR.out.1, ← HR.out.2, HA.out, HSP.out, HC.out.1]; rfl
            rw [hkb, if_neg (by simp [HL0.out])]
            exact ⟨_, rfl, rfl⟩
      · have HSP := Lib.hid hsp; clear hsp
        have hconv := conv22_9 (BS.of_seg (S := []) (c := c) H.out.1.seg rfl hlc (by simp))
        go_wp2
        go_ret2
        refine ⟨Chg.refl _ _, ⟨_, rfl, H.out.1⟩, ?_⟩
        have hkb : keyB l = some l := by rw [HR.out.1, ← HR.out.2, HA.out, HSP.out]; rfl
        rw [hkb, if_neg (by simp [HL0.out])]
        exact ⟨_, rfl, rfl⟩
end Go.Proofs.YtekndndhgkdggaaGreatDoor
