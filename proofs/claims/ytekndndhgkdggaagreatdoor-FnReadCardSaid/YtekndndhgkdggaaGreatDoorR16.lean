/- A new part, as it stands. The next part, as it stands. The next part, walked. NextRawPart. The readers are made. -/
import Derived.Test.YtekndndhgkdggaaGreatDoorR15
import Derived.Test.YtekndndhgkdggaaGreatDoorR9
import Derived.Deep.LoopGhost
import Derived.Deep.OwnRows
namespace Go.Proofs.YtekndndhgkdggaaGreatDoor
open Go.RowKit

def NpPost (B : Nat) (g : Nat → Addr) (h : Hs) (MR : Nat) (w : World) (rem : Bs) (e : Ending) (w' : World) : Prop :=
  Chg h.all w w' ∧
  match hdrB rem with
  | .ok fs rem' => ∃ PP M gs SB n ns base, e = .returned (.tuple #[.pointer (some ⟨PP, 0, none⟩), .nilIface]) ∧ w.heap.size ≤ PP ∧ PP < base ∧ Blk w' PP (ptc PP MR M 0 0 .nilIface .nilIface) 93 ∧ MapS base SB ns w' M n gs ∧ (fsOf gs = fs ∧ n ≤ 3000) ∧ (SB < base → ns = 0) ∧ ∃ r lb lr, InS B g h w' r rem' .nilIface lb lr
  | .early => e = .returned (.tuple #[.pointer none, erv (g 0)])
  | .wrong => ∃ er, e = .returned (.tuple #[.pointer none, er]) ∧ ((∃ s, er = perr s) ∨ er = erv (g 5))

/-- newPart comes to that -/
def NpC (B : Nat) (g : Nat → Addr) (h : Hs) (raw : Bool) (rem : Bs) : Prop := ∀ (w : World) (r : Nat) (lb lr : Int) (MR : Nat) (mcs : Array Value), InS B g h w r rem .nilIface lb lr → Blk w MR mcs 81 → mcs[0]? = some (.pointer (some ⟨h.BR, 0, none⟩)) →
    Calls Tryz.prog 48 #[.pointer (some ⟨MR, 0, none⟩), .bool raw, .int .i64 10485760, .int .i64 10000] w (NpPost B g h MR w rem)

theorem InS.blks {B : Nat} {g : Nat → Addr} {h : Hs} {w : World} {r : Nat} {rem : Bs} {e : Value} {lb lr : Int} (hs : InS B g h w r rem e lb lr) : ∀ x ∈ h.all, x < w.heap.size ∧ B ≤ x := by
  intro x hx
  have ho := hs.ok
  unfold Hs.all at hx
  simp at hx
  rcases hx with rfl | rfl | rfl | rfl
  · obtain ⟨_, _, _, _, hb, _⟩ := hs.rd; exact ⟨hb.lt, ho.b1⟩
  · obtain ⟨_, hb, _⟩ := hs.st; exact ⟨hb.lt, ho.b2⟩
  · exact ⟨hs.br.lt, ho.b3⟩
  · obtain ⟨_, _, hb, _⟩ := hs.u; exact ⟨hb.lt, ho.b4⟩

set_option maxRecDepth 100000 in
set_option maxHeartbeats 4000000 in
theorem newRaw_any {B : Nat} {g : Nat → Addr} {h : Hs} {w : World} {r : Nat} {rem : Bs} {lb lr : Int} {MR : Nat} {mcs : Array Value} (hs : InS B g h w r rem .nilIface lb lr) (hm : Blk w MR mcs 81) (hm0 : mcs[0]? = some (.pointer (some ⟨h.BR, 0, none⟩))) :
    Calls Tryz.prog 48 #[.pointer (some ⟨MR, 0, none⟩), .bool true, .int .i64 10485760, .int .i64 10000] w (NpPost B g h MR w rem) := by
  have hc1 : Chg [] w ((w.alloc (.map #[] 0)).alloc (.cells (ptc0 MR (.map (some w.heap.size)) .nilIface) 93)) := ((Chg.refl [] w).alloc _).alloc _
  have hs1 := hs.draw hc1 (by simp)
  have hb1 : Blk ((w.alloc (.map #[] 0)).alloc (.cells (ptc0 MR (.map (some w.heap.size)) .nilIface) 93)) (w.heap.size + 1) (ptc0 MR (.map (some w.heap.size)) .nilIface) 93 := Blk.at_ _ (by simp) _ _
  have hall := hs.blks
  have hPn : w.heap.size + 1 ∉ h.all := fun hx => by have := (hall _ hx).1; omega
  have hle := hs.gl.le
  have hpop := Lib.hid (popHdr_any hs1 hb1 (hm.chg hc1 (by simp)) hm0 hPn (by omega))
  unfold ptc0 at hpop
  have H := Lib.hid (And.intro hc1 (And.intro hall hPn)); clear hc1 hs1 hb1 hall hPn hs hm hm0
  have hmk := @run_makeMap Tryz.prog 89
  go_enter Tryz.func48, Tryz.ntmps48
  go_wp2_with fail
  refine hpop.out.mono ?_
  rintro e w2 ⟨hc2, hk⟩
  have hcw : Hid (Chg h.all w w2) := by
    have h1 := H.out.1.none.trans hc2
    exact h1.less (fun x hx => by
      rcases List.mem_cons.1 hx with rfl | hx
      · exact .inr (by omega)
      · exact .inl hx)
  clear hc2 hpop
  obtain ⟨o, ho⟩ : ∃ o, o = hdrB rem := ⟨_, rfl⟩
  rw [← ho] at hk
  have HO := Lib.hid ho; clear ho
  cases o with
  | ok fs rem' =>
    obtain ⟨rfl, M, gs, SB, n, ns, base, hbase, hb2, hms, hfs, hsb, hin⟩ := hk
    have f4 : w2.frozen? ⟨w.heap.size + 1, 4, none⟩ = false := hb2.free 4
    have c4 : w2.cell? ⟨w.heap.size + 1, 4, none⟩ = some .nilIface := hb2.cell 4
    have hb3 := hb2.set 4 (.iface 125 (.agg #[.pointer (some ⟨w.heap.size + 1, 0, none⟩)]))
    have HK := Lib.hid (And.intro hbase (And.intro hb3 (And.intro hms (And.intro hfs (And.intro hsb hin))))); clear hbase hb2 hb3 hms hfs hsb hin
    go_wp2
    go_ret2
    obtain ⟨hbase, hb3, hms, hfs, hsb, hin⟩ := HK.out
    have hcf : Chg [w.heap.size + 1] w2 (w2.setCell ⟨w.heap.size + 1, 4, none⟩ (.iface 125 (.agg #[.pointer (some ⟨w.heap.size + 1, 0, none⟩)]))) := (Chg.refl [w.heap.size + 1] w2).setCell (.inl (by simp)) _
    have hbs : w.heap.size + 1 < base := by simp at hbase; omega
    unfold NpPost
    rw [← HO.out]
    refine ⟨hcw.out.thn hcf (fun x hx => by simp at hx; right; omega), w.heap.size + 1, M, gs, SB, n, ns, base, rfl, by omega, hbs, hb3, hms.chg hcf ?_ ?_, hfs, hsb, hin.imp fun r k => k.imp fun lb k => k.imp fun lr k => k.draw hcf (fun x hx => by simp at hx; subst hx; exact ⟨by omega, H.out.2.2⟩)⟩
    · have := hms.mb.1; simp; omega
    · intro f hf k hk hmm
      simp at hmm; subst hmm
      rcases hms.blk f hf _ hk with h1 | ⟨h1, _⟩
      · rcases (hms.vals f hf).2 with ⟨i, s, hi, hvv, _⟩ | ⟨_, k2, hk2, hkS⟩
        · have : ¬ SB < base := fun hl => by have := hsb hl; omega
          omega
        · rw [hk] at hk2; cases hk2; exact hkS h1
      · omega
  | early =>
    subst hk
    go_wp2
    go_ret2
    unfold NpPost
    rw [← HO.out]
    exact ⟨hcw.out, rfl⟩
  | wrong =>
    obtain ⟨er, rfl, hor⟩ := hk
    have hor2 := Lib.hid hor
    rcases hor with ⟨s, rfl⟩ | rfl
    · unfold perr
      go_wp2
      go_ret2
      unfold NpPost
      rw [← HO.out]
      exact ⟨hcw.out, _, rfl, .inl ⟨s, rfl⟩⟩
    · go_wp2
      go_ret2
      unfold NpPost
      rw [← HO.out]
      exact ⟨hcw.out, _, rfl, .inr rfl⟩
theorem newRaw_c (B : Nat) (g : Nat → Addr) (h : Hs) (rem : Bs) : NpC B g h true rem := fun _ _ _ _ _ _ hs hm hm0 => newRaw_any hs hm hm0
end Go.Proofs.YtekndndhgkdggaaGreatDoor

namespace Go.Proofs.YtekndndhgkdggaaGreatDoor
open Go.RowKit

set_option maxRecDepth 100000 in
theorem errNew_any {w : World} {s : ByteArray} : Calls Tryz.prog 44 #[.string s] w fun e w' => e = .returned (erv ⟨w.heap.size, 0, none⟩) ∧ w' = w.alloc (.cells #[.string s] 120) := by
  go_enter Tryz.func44, Tryz.ntmps44
  go_wp2
  go_ret
  exact ⟨rfl, rfl⟩

theorem nextB_end {bd nl rem : Bs} {parts : Nat} {soon : Bool} (h : (takeLine rem).2.2 = false) : nextB bd parts soon nl rem = (false, if finalB bd nl (takeLine rem).1 then 0 else 1, [], nl) := by
  rw [nextB]
  simp only [h, Bool.false_eq_true, dif_neg, not_false_eq_true]
  split <;> simp_all
theorem nextB_line {bd nl rem : Bs} {parts : Nat} {soon : Bool} (h : (takeLine rem).2.2 = true) : nextB bd parts soon nl rem =
    if delimB bd (nlB bd nl parts (takeLine rem).1) (takeLine rem).1 then (true, 0, (takeLine rem).2.1, nlB bd nl parts (takeLine rem).1)
    else if finalB bd (nlB bd nl parts (takeLine rem).1) (takeLine rem).1 then (false, 0, (takeLine rem).2.1, nlB bd nl parts (takeLine rem).1)
    else if soon then (false, 2, (takeLine rem).2.1, nlB bd nl parts (takeLine rem).1)
    else if parts = 0 then nextB bd parts soon (nlB bd nl parts (takeLine rem).1) (takeLine rem).2.1
    else if (takeLine rem).1 = nlB bd nl parts (takeLine rem).1 then nextB bd parts true (nlB bd nl parts (takeLine rem).1) (takeLine rem).2.1
    else (false, 2, (takeLine rem).2.1, nlB bd nl parts (takeLine rem).1) := by
  rw [nextB]
  simp only [h, dif_pos]

/-- the end of lines stays where no part begins -/
theorem nlB_stays {bd nl l : Bs} {parts : Nat} (h : delimB bd (nlB bd nl parts l) l = false) : nlB bd nl parts l = nl := by
  unfold nlB delimB at *
  cases hb : behindB l ([45, 45] ++ bd) with
  | none => rfl
  | some rest =>
    rw [hb] at h
    simp only at h ⊢
    split
    · rename_i hc
      rw [if_pos hc, hc.2] at h
      simp at h
    · rfl

def NxPost (B : Nat) (g : Nat → Addr) (h : Hs) (S C : List Nat) (MR : Nat) (bd : Bs) (parts : Nat) (w : World) (res : Bool × Nat × Bs × Bs) (e : Ending) (w' : World) : Prop :=
  Chg (MR :: C) w w' ∧
  if res.1 then
    match hdrB res.2.2.1 with
    | .ok fs rem' => ∃ PP M gs SB n ns base, e = .returned (.tuple #[.pointer (some ⟨PP, 0, none⟩), .nilIface]) ∧ w.heap.size ≤ PP ∧ PP < base ∧ MapS base SB ns w' M n gs ∧ (fsOf gs = fs ∧ n ≤ 3000) ∧ (SB < base → ns = 0) ∧
        PtS B g h (PP :: S) w' PP MR M bd res.2.2.2 (.pointer (some ⟨PP, 0, none⟩)) (parts + 1) rem' (bodyB bd res.2.2.2 rem') ∧ 0 < res.2.2.2.length
    | .early => e = .returned (.tuple #[.pointer none, erv (g 0)])
    | .wrong => ∃ er, e = .returned (.tuple #[.pointer none, er]) ∧ ((∃ s, er = perr s) ∨ er = erv (g 5)) ∧ Glb B g w'
  else if res.2.1 = 0 then e = .returned (.tuple #[.pointer none, erv (g 0)])
  else if res.2.1 = 1 then ∃ W, e = .returned (.tuple #[.pointer none, .iface 103 (.pointer (some ⟨W, 0, none⟩))]) ∧ (∃ s, Blk w' W #[s, erv (g 0)] 105) ∧ Glb B g w'
  else ∃ q, e = .returned (.tuple #[.pointer none, erv q]) ∧ EA w' q ∧ B ≤ q.block ∧ Glb B g w'

/-- ready for the next part -/
def NSt (B : Nat) (g : Nat → Addr) (h : Hs) (S : List Nat) (w : World) (MR : Nat) (bd nl : Bs) (cur : Value) (parts : Nat) (rem : Bs) : Prop :=
  MRS S w MR h bd nl cur parts ∧ MR ∉ h.all ∧ B ≤ MR ∧ MR ∉ S ∧ (∀ x ∈ h.all, x ∈ S) ∧
  ((cur = .pointer none ∧ Rdy B g h w rem) ∨ ∃ PP M rem0 res, cur = .pointer (some ⟨PP, 0, none⟩) ∧ PtS B g h S w PP MR M bd nl cur parts rem0 res ∧ rem = rem0.drop res.1)
end Go.Proofs.YtekndndhgkdggaaGreatDoor

namespace Go.Proofs.YtekndndhgkdggaaGreatDoor
open Go.RowKit

def NIn (B : Nat) (g : Nat → Addr) (h : Hs) (S C : List Nat) (MR : Nat) (bd : Bs) (cur : Value) (parts : Nat) (w wz : World) (nl rem : Bs) : Prop :=
  Chg (MR :: C) w wz ∧ MRS S wz MR h bd nl cur parts ∧ Rdy B g h wz rem ∧ (parts = 0 → nl = [13, 10]) ∧ 0 < nl.length

theorem Rdy.gl {B : Nat} {g : Nat → Addr} {h : Hs} {w : World} {rem : Bs} (hr : Rdy B g h w rem) : Glb B g w := by
  rcases hr with ⟨_, _, _, k⟩ | ⟨_, _, k⟩
  · exact k.gl
  · exact k.gl
theorem Rdy.len {B : Nat} {g : Nat → Addr} {h : Hs} {w : World} {rem : Bs} (hr : Rdy B g h w rem) : rem.length ≤ 3000 := by
  rcases hr with ⟨_, _, _, k⟩ | ⟨_, _, k⟩
  · have := k.lt; omega
  · exact k.lt

theorem MRS.turn {S : List Nat} {w w' : World} {MR : Nat} {h : Hs} {bd nl : Bs} {cur cur' : Value} {parts parts' : Nat} (hm : MRS S w MR h bd nl cur parts) (hc : Chg (MR :: S) w w')
    (hb : ∀ t v1 v2 v3 v4, Blk w MR #[.pointer (some ⟨h.BR, 0, none⟩), t, cur, .int .i64 (parts : Int), v1, v2, v3, v4] 81 → Blk w' MR #[.pointer (some ⟨h.BR, 0, none⟩), t, cur', .int .i64 (parts' : Int), v1, v2, v3, v4] 81) (hp : parts' ≤ 1000) : MRS S w' MR h bd nl cur' parts' := by
  obtain ⟨⟨t, v1, v2, v3, v4, hb1, h1, h2, h3, h4⟩, hbn⟩ := hm
  exact ⟨⟨t, v1, v2, v3, v4, hb _ _ _ _ _ hb1, h1.chg hc, h2.chg hc, h3.chg hc, h4.chg hc⟩, hbn.1, hbn.2.1, hp⟩

theorem nlB_pos {bd nl l : Bs} {parts : Nat} (h : 0 < nl.length) : 0 < (nlB bd nl parts l).length := by
  unfold nlB
  split
  · split <;> simp_all
  · exact h

/-- a write below the rows keeps the map -/
theorem MapS.low {base SB ns : Nat} {w w' : World} {M n : Nat} {gs : List GF} {x : Nat} (h : MapS base SB ns w M n gs) (hc : Chg [x] w w') (hx : x < base) (hsb : SB < base → ns = 0) : MapS base SB ns w' M n gs := by
  refine h.chg hc ?_ ?_
  · have := h.mb.1; simp; omega
  · intro f hf k hk hmm
    simp at hmm; subst hmm
    rcases h.blk f hf _ hk with h1 | ⟨h1, _⟩
    · rcases (h.vals f hf).2 with ⟨i, s, hi, hvv, _⟩ | ⟨_, k2, hk2, hkS⟩
      · have : ¬ SB < base := fun hl => by have := hsb hl; omega
        omega
      · rw [hk] at hk2; cases hk2; exact hkS h1
    · omega

set_option maxRecDepth 100000 in
set_option maxHeartbeats 8000000 in
theorem nextPart_any {B : Nat} {g : Nat → Addr} {h : Hs} {S C : List Nat} {w : World} {MR : Nat} {bd nl : Bs} {cur : Value} {parts : Nat} {rem : Bs} (hs : NSt B g h S w MR bd nl cur parts rem) (hbd : bd ≠ []) (hnl : 0 < nl.length) (hf : parts = 0 → nl = [13, 10]) (hp9 : parts ≤ 500) (raw : Bool) (hnp : (nextB bd parts false nl rem).1 = true → NpC B g h raw (nextB bd parts false nl rem).2.2.1)
    (hC : ∀ x ∈ h.all, x ∈ C) (hC2 : ∀ PP, cur = .pointer (some ⟨PP, 0, none⟩) → PP ∈ C) :
    Calls Tryz.prog 35 #[.pointer (some ⟨MR, 0, none⟩), .bool raw, .int .i64 10485760, .int .i64 10000] w (NxPost B g h S C MR bd parts w (nextB bd parts false nl rem)) := by
  obtain ⟨hm, hMn, hMB, hMS, hSS, hcase⟩ := hs
  obtain ⟨⟨t9, v1, v2, v3, v4, hmb, hv1, hv2, hv3, hv4⟩, hbn⟩ := id hm
  have m2 : w.cell? ⟨MR, 2, none⟩ = some cur := hmb.cell 2
  obtain ⟨cp, rfl⟩ : ∃ cp, cur = .pointer cp := by
    rcases hcase with ⟨rfl, _⟩ | ⟨_, _, _, _, rfl, _⟩ <;> exact ⟨_, rfl⟩
  have HF := Lib.hid (And.intro hMn (And.intro hMB (And.intro hMS hSS)))
  have hcase := Lib.hid hcase
  have HM := Lib.hid (And.intro hm (And.intro hf hnl)); clear hm hmb hv1 hv2 hv3 hv4 hf hnl
  obtain ⟨res, hres⟩ : ∃ res, res = nextB bd parts false nl rem := ⟨_, rfl⟩
  rw [← hres]
  rw [← hres] at hnp
  have HR := Lib.hid hres; clear hres
  have HNP := Lib.hid (And.intro hnp (And.intro hC hC2)); clear hnp hC hC2
  go_enter Tryz.func35, Tryz.ntmps35
  go_upto_if 19 with (fail)
  go_cut [] (fun wz => Hid (NIn B g h S C MR bd (.pointer cp) parts w wz nl rem))
  case first =>
    rcases hcase.out with ⟨hcp, hrdy⟩ | ⟨PP, M, rem0, res0, hcp, hpt, hrem⟩
    all_goals cases hcp
    · have HX := Lib.hid hrdy; clear hrdy
      go_wp2
      go_meet
      exact ⟨Chg.refl _ _, HM.out.1, HX.out, HM.out.2.1, HM.out.2.2⟩
    · have hcl := Lib.hid (close_any hpt HM.out.2.2)
      have HX := Lib.hid (And.intro hpt hrem); clear hpt hrem
      go_wp2_with fail
      refine hcl.out.mono ?_
      rintro e w2 ⟨rfl, hc2, hp2⟩
      have hfin : Hid (NIn B g h S C MR bd (.pointer (some ⟨PP, 0, none⟩)) parts w w2 nl rem) :=
        ⟨hc2.mono (fun x hx => List.mem_cons_of_mem _ (by
          rcases List.mem_cons.1 hx with e | hx
          · rw [e]; exact HNP.out.2.2 PP rfl
          · exact HNP.out.2.1 x hx)), hp2.mr, .inl (by rw [HX.out.2]; exact hp2.ins), HM.out.2.1, HM.out.2.2⟩
      clear hc2 hp2 hcl
      go_wp2
      go_meet
      exact hfin
  case rest =>
    have hcut := Lib.hid hcut.out
    clear hcase m2
    obtain ⟨⟨t9', v1', v2', v3', v4', hmb', hv1', hv2', hv3', hv4'⟩, _⟩ := hcut.out.2.1
    have m7 : wc.cell? ⟨MR, 7, none⟩ = some v4' := hmb'.cell 7
    have hcv := conv22_9 hv4'
    have hne : (([45, 45] ++ bd : Bs) == [45, 45]) = false := by
      rw [beq_eq_false_iff_ne]; intro e
      have := congrArg List.length e
      simp at this; exact hbd this
    generalize ([45, 45] ++ bd : Bs) = fr at hcv hne
    clear hmb' hv1' hv2' hv3' hv4'
    go_wp2
    go_loopg [10] (rem.length + 1) (fun k s10 wr => ∃ (nl' rem' : Bs) (soon : Bool), s10 = .bool soon ∧ Hid (NIn B g h S C MR bd (.pointer cp) parts w wr nl' rem') ∧ Hid (nextB bd parts soon nl' rem' = res) ∧ rem'.length + 1 ≤ k)
    case atStart => exact ⟨nl, rem, false, rfl, hcut.out, HR.out.symm, Nat.le_refl _⟩
    case round =>
      clear hcut hcv hne m7
      obtain ⟨nl', rem', soon, rfl, hin, hnx, hk⟩ := hrel
      have hin := Lib.hid hin.out
      have hnx := Lib.hid hnx.out
      obtain ⟨hch, hmr, hrdy, hf, hnl⟩ := hin.out
      have hlen := hrdy.len
      obtain ⟨⟨u9, y1, y2, y3, y4, hmb, hy1, hy2, hy3, hy4⟩, _⟩ := id hmr
      have m0 : wr.cell? ⟨MR, 0, none⟩ = some (.pointer (some ⟨h.BR, 0, none⟩)) := hmb.cell 0
      have hrs := Lib.hid (readSlice_any hrdy)
      have htl := takeLine_len rem'
      have HI := Lib.hid (And.intro hch (And.intro hmr (And.intro hf hnl))); clear hch hmr hrdy hf hnl hmb hy1 hy2 hy3 hy4
      unfold RsPost at hrs
      obtain ⟨ln, hln⟩ : ∃ ln, ln = (takeLine rem').1 := ⟨_, rfl⟩
      obtain ⟨rr, hrr⟩ : ∃ rr, rr = (takeLine rem').2.1 := ⟨_, rfl⟩
      obtain ⟨en, hen⟩ : ∃ en, en = (takeLine rem').2.2 := ⟨_, rfl⟩
      rw [← hln, ← hrr, ← hen] at hrs
      rw [← hln, ← hrr] at htl
      have HT := Lib.hid (And.intro hln (And.intro hrr hen)); clear hln hrr hen
      go_wp2_with fail
      refine hrs.out.mono ?_
      rintro e w2 ⟨r0, c, lb, lr, rfl, hc2, hcc, hseg, hin2⟩
      have g0 := (hin2.gl.err 0 (by omega)).1
      obtain ⟨hMn, hMB, hMS, hSS⟩ := HF.out
      have hmr2 := HI.out.2.1.chg (hc2.mono (S' := S) hSS) hMS
      have hch2 : Chg (MR :: C) w w2 := HI.out.1.trans (hc2.mono (fun x hx => List.mem_cons_of_mem _ (HNP.out.2.1 x hx)))
      have hUa : h.U ∈ h.all := by unfold Hs.all; simp
      have hUM : h.U ≠ MR := fun e => hMn (by rw [← e]; exact hUa)
      have hBl : BS (MR :: []) w2 (.slice (some ⟨h.U, r0, none⟩) ln.length c) ln := BS.of_seg hseg rfl hcc (by simp; exact hUM)
      have hlnl : ln.length ≤ 3000 := by omega
      have hdl := Lib.hid (isDelim_any hmr2 HI.out.2.2.1 hBl hlnl)
      have hfi := Lib.hid (isFinal_any hmr2 hBl hlnl)
      have heq0 := fun W => eql_eq W (g 0)
      have hnil0 : ∀ W, (binOp .eql 54 .nilIface (erv (g 0))).run Tryz.prog W = .ok (.bool false) W := fun W => by
        obtain ⟨te, ms, i, j, h1, h2, h3, h4, h5, h6⟩ := err_types
        exact run_eql_iface_nil_left (P := Tryz.prog) W 118 _ h2
      have H2 := Lib.hid (And.intro hin2 (And.intro hmr2 (And.intro hch2 (And.intro hseg hBl)))); clear hin2 hmr2 hch2 hseg hBl hrs hc2
      cases en with
      | false =>
        simp only [Bool.false_eq_true, if_false]
        have hoff := nextB_end (bd := bd) (nl := nl') (parts := parts) (soon := soon) HT.out.2.2.symm
        rw [hnx.out, ← HT.out.1] at hoff
        have hoff := Lib.hid hoff
        clear hdl
        cases hfb : finalB bd nl' ln with
        | true =>
          rw [hfb] at hfi
          have HFB := Lib.hid hfb; clear hfb
          go_wp2_with (go_at_call 46; refine hfi.out.mono ?_; rintro e w3 ⟨rfl, rfl⟩)
          go_quiet (fail)
          go_wp2
          go_ret2
          unfold NxPost
          rw [hoff.out, HFB.out]
          exact ⟨H2.out.2.2.1.drewN _, rfl⟩
        | false =>
          rw [hfb] at hfi
          have HFB := Lib.hid hfb; clear hfb
          go_wp2_with (go_at_call 46; refine hfi.out.mono ?_; rintro e w3 ⟨rfl, rfl⟩)
          go_ret2
          unfold NxPost
          rw [hoff.out, HFB.out]
          refine ⟨H2.out.2.2.1.alloc _, w2.heap.size, rfl, ⟨_, Blk.new w2 _ _⟩, H2.out.1.gl.chg ((Chg.refl [] w2).alloc _) (by simp)⟩
      | true =>
        simp only [if_true]
        have hon := nextB_line (bd := bd) (nl := nl') (parts := parts) (soon := soon) HT.out.2.2.symm
        rw [hnx.out, ← HT.out.1, ← HT.out.2.1] at hon
        clear hfi
        have hne2 : ln ≠ [] := by rw [HT.out.1]; exact takeLine_ended HT.out.2.2.symm
        have hlp : 0 < ln.length := List.length_pos_iff.2 hne2
        obtain ⟨nl2, hnl2⟩ : ∃ nl2, nl2 = nlB bd nl' parts ln := ⟨_, rfl⟩
        unfold DelimPost at hdl
        rw [← hnl2] at hon hdl
        have HNL := Lib.hid hnl2; clear hne2
        cases hdb : delimB bd nl2 ln with
        | true =>
          rw [hdb] at hdl
          simp only [hdb, if_true] at hon
          have HON := Lib.hid hon; clear hon hnl2 hdb
          go_wp2_with fail
          refine hdl.out.mono ?_
          rintro e w3 ⟨rfl, hc3, hmr3⟩
          obtain ⟨hin2, hmr2, hch2, _, _⟩ := H2.out
          have hin3 := hin2.draw hc3 (fun x hx => by simp at hx; subst hx; exact ⟨hMB, hMn⟩)
          obtain ⟨⟨q9, z1, z2, z3, z4, hmb3, _⟩, _⟩ := id hmr3
          obtain ⟨p1, hp1⟩ : ∃ p1, p1 = parts + 1 := ⟨_, rfl⟩
          have hwp : IntKind.i64.wrap ((parts : Int) + 1) = (p1 : Int) := by rw [IntWalk.i64_in _ (by omega)]; omega
          have c3 : w3.cell? ⟨MR, 3, none⟩ = some (.int .i64 (parts : Int)) := hmb3.cell 3
          have f3 : w3.frozen? ⟨MR, 3, none⟩ = false := hmb3.free 3
          have hcs : Chg [MR] w3 (w3.setCell ⟨MR, 3, none⟩ (.int .i64 (p1 : Int))) := (Chg.refl [MR] w3).setCell (.inl (by simp)) _
          have hmb4 := hmb3.set 3 (.int .i64 (p1 : Int))
          have hin4 := hin3.draw hcs (fun x hx => by simp at hx; subst hx; exact ⟨hMB, hMn⟩)
          have hnr := Lib.hid (HNP.out.1 (by rw [HON.out]) _ _ _ _ _ _ (by rw [HON.out]; exact hin4) hmb4 rfl)
          rw [HON.out] at hnr
          have hmr4 : MRS S (w3.setCell ⟨MR, 3, none⟩ (.int .i64 (p1 : Int))) MR h bd nl2 (.pointer cp) p1 := hmr3.turn (hcs.mono (by simp)) (fun _ _ _ _ _ hb => hb.set 3 (.int .i64 (p1 : Int))) (by omega)
          have hch4 : Chg (MR :: C) w (w3.setCell ⟨MR, 3, none⟩ (.int .i64 (p1 : Int))) := (hch2.trans (hc3.mono (by simp))).trans (hcs.mono (by simp))
          have H4 := Lib.hid (And.intro hin4 (And.intro hmb4 (And.intro hmr4 (And.intro hch4 hp1)))); clear hin4 hmb4 hmr4 hch4 hp1 hin2 hmr2 hch2 hin3 hmr3 hmb3 hc3 hdl hcs
          unfold NpPost at hnr
          go_wp2_with fail
          generalize w3.setCell ⟨MR, 3, none⟩ (.int .i64 (p1 : Int)) = w4 at *
          refine hnr.out.mono ?_
          rintro e w5 ⟨hc5, hk5⟩
          obtain ⟨hin4, hmb4, hmr4, hch4, hp1⟩ := H4.out
          have hwsz := hch4.size
          have hch5 := hch4.trans (hc5.mono (fun x hx => List.mem_cons_of_mem _ (HNP.out.2.1 x hx)))
          have hmr5 := hmr4.chg (hc5.mono (S' := S) hSS) hMS
          have hgl5 := hin4.gl.chg hc5 (fun x hx => (hin4.blks x hx).2)
          have hMlt := hmb4.lt
          have hall := hin4.blks
          have hle4 := hin4.gl.le
          obtain ⟨⟨_, _, _, _, _, hmb5, _⟩, _⟩ := id hmr5
          have c2 : w5.cell? ⟨MR, 2, none⟩ = some (.pointer cp) := hmb5.cell 2
          have f2 : w5.frozen? ⟨MR, 2, none⟩ = false := hmb5.free 2
          obtain ⟨o, ho⟩ : ∃ o, o = hdrB rr := ⟨_, rfl⟩
          rw [← ho] at hk5
          have HO := Lib.hid ho
          have H5 := Lib.hid (And.intro hch5 (And.intro hmr5 (And.intro hgl5 (And.intro hall (And.intro hle4 (And.intro hp1 (And.intro hmr4 hc5))))))); clear hin4 hmb4 hmr4 hch4 hp1 hch5 hmr5 hgl5 hall hc5 hmb5 ho H4 hnr
          cases o with
          | ok fs rem9 =>
            obtain ⟨PP, M, gs, SB, n, ns, base, rfl, hPP, hPb, hbP, hms, hfs, hsb, r5, lb5, lr5, hin5⟩ := hk5
            have HK := Lib.hid (And.intro hbP (And.intro hms (And.intro hfs (And.intro hsb hin5)))); clear hbP hms hfs hsb hin5
            go_wp2
            go_ret2
            obtain ⟨hbP, hms, hfs, hsb, hin5⟩ := HK.out
            obtain ⟨hch5, hmr5, hgl5, hall, hle4, hp1, hmr4, hc5⟩ := H5.out
            have hcf : Chg [MR] w5 (w5.setCell ⟨MR, 2, none⟩ (.pointer (some ⟨PP, 0, none⟩))) := (Chg.refl [MR] w5).setCell (.inl (by simp)) _
            have hPM : PP ≠ MR := by omega
            have hmrp := (hmr4.add (S' := PP :: S) (fun x hx => by
              rcases List.mem_cons.1 hx with rfl | h1
              · exact .inr hPP
              · exact .inl h1)).chg (hc5.mono (S' := PP :: S) (fun x hx => by simp [hSS x hx])) (by
                intro hm
                rcases List.mem_cons.1 hm with h1 | h1
                · exact hPM h1.symm
                · exact hMS h1)
            have hmr6 : MRS (PP :: S) (w5.setCell ⟨MR, 2, none⟩ (.pointer (some ⟨PP, 0, none⟩))) MR h bd nl2 (.pointer (some ⟨PP, 0, none⟩)) (parts + 1) :=
              hmrp.turn (hcf.mono (by simp)) (fun _ _ _ _ _ hb => by rw [hp1] at hb; exact hb.set 2 (.pointer (some ⟨PP, 0, none⟩))) (by omega)
            have hn2 : 0 < nl2.length := by rw [HNL.out]; exact nlB_pos HI.out.2.2.2
            unfold NxPost
            rw [HON.out]
            simp only [if_true]
            rw [← HO.out]
            have hl5 := hin5.lt
            refine ⟨hch5.trans (hcf.mono (by simp)), PP, M, gs, SB, n, ns, base, rfl, by omega, hPb, hms.low hcf (by omega) hsb, hfs, hsb, ⟨⟨0, 0, false, .nilIface, hbP.chg hcf (by simpa using hPM), by omega, .inl ⟨rfl, rfl, ?_⟩⟩, hmr6, ⟨_, _, _, hin5.draw hcf (fun x hx => by simp at hx; subst hx; exact ⟨hMB, hMn⟩)⟩, ?_, hMn, by omega, hMB, ?_, ?_⟩, hn2⟩
            · have := wB_body bd nl2 rem9 hn2
              rw [List.append_assoc]; exact this
            · intro hm
              rcases List.mem_cons.1 hm with h1 | h1
              · exact hPM h1
              · have := (hall _ h1).1; omega
            · intro hm
              rcases List.mem_cons.1 hm with h1 | h1
              · exact hPM h1.symm
              · exact hMS h1
            · intro x hx
              rcases List.mem_cons.1 hx with rfl | h1
              · simp
              · simp [hSS x h1]
          | early =>
            subst hk5
            go_wp2
            go_ret2
            unfold NxPost
            rw [HON.out]
            simp only [if_true]
            rw [← HO.out]
            exact ⟨H5.out.1, rfl⟩
          | wrong =>
            obtain ⟨er, rfl, hor⟩ := hk5
            rcases hor with ⟨sx, rfl⟩ | rfl
            · unfold perr
              go_wp2
              go_ret2
              unfold NxPost
              rw [HON.out]
              simp only [if_true]
              rw [← HO.out]
              exact ⟨H5.out.1, _, rfl, .inl ⟨_, rfl⟩, H5.out.2.2.1⟩
            · go_wp2
              go_ret2
              unfold NxPost
              rw [HON.out]
              simp only [if_true]
              rw [← HO.out]
              exact ⟨H5.out.1, _, rfl, .inr rfl, H5.out.2.2.1⟩
        | false =>
          rw [hdb] at hdl
          simp only [hdb, Bool.false_eq_true, if_false] at hon
          have hst := nlB_stays (bd := bd) (nl := nl') (l := ln) (parts := parts) (by rw [← hnl2]; exact hdb)
          rw [← hnl2] at hst
          clear hdb
          subst hst
          have HON := Lib.hid hon; clear hon hnl2
          go_wp2_with fail
          refine hdl.out.mono ?_
          rintro e w3 ⟨rfl, hc3, hmr3⟩
          obtain ⟨hin2, hmr2, hch2, hseg, hBl⟩ := H2.out
          have hin3 := hin2.draw hc3 (fun x hx => by simp at hx; subst hx; exact ⟨hMB, hMn⟩)
          have hBl3 := hBl.chg hc3
          have hch3 := hch2.trans (hc3.mono (S' := MR :: C) (by simp))
          have hfi3 := Lib.hid (isFinal_any hmr3 hBl3 hlnl)
          have g03 := (hin3.gl.err 0 (by omega)).1
          obtain ⟨⟨q9, z1, z2, z3, z4, hmb3, hz1, _⟩, _⟩ := id hmr3
          have c3 : w3.cell? ⟨MR, 3, none⟩ = some (.int .i64 (parts : Int)) := hmb3.cell 3
          have c4 : w3.cell? ⟨MR, 4, none⟩ = some z1 := hmb3.cell 4
          have heqv := Lib.hid (equal_any hBl3 hz1)
          have H3 := Lib.hid (And.intro hin3 (And.intro hmr3 hch3)); clear hin2 hmr2 hch2 hseg hBl hin3 hBl3 hch3 hc3 hmr3 hmb3 hz1 hdl g0
          have hnin : Hid (NIn B g h S C MR bd (.pointer cp) parts w w3 nl2 rr) := ⟨H3.out.2.2, H3.out.2.1, .inl ⟨_, _, _, H3.out.1⟩, HI.out.2.2.1, HI.out.2.2.2⟩
          have hEA : Hid (∀ sx, Chg (MR :: C) w (w3.alloc (.cells #[.string sx] 120)) ∧ EA (w3.alloc (.cells #[.string sx] 120)) ⟨w3.heap.size, 0, none⟩ ∧ B ≤ w3.heap.size ∧ Glb B g (w3.alloc (.cells #[.string sx] 120))) := fun sx =>
            ⟨H3.out.2.2.alloc _, ⟨_, _, Blk.new w3 _ _⟩, H3.out.1.gl.le, H3.out.1.gl.chg ((Chg.refl [] w3).alloc _) (by simp)⟩
          cases hfb : finalB bd nl2 ln with
          | true =>
            rw [hfb] at hfi3
            have HFB := Lib.hid hfb; clear hfb
            go_wp2_with fail
            refine hfi3.out.mono ?_
            rintro e w4 ⟨rfl, rfl⟩
            go_wp2
            go_quiet (fail)
            go_wp2
            go_ret2
            unfold NxPost
            rw [HON.out, HFB.out]
            exact ⟨H3.out.2.2.drewN _, rfl⟩
          | false =>
            rw [hfb] at hfi3
            have HFB := Lib.hid hfb; clear hfb
            cases soon with
            | true =>
              go_wp2_with fail
              refine hfi3.out.mono ?_
              rintro e w4 ⟨rfl, rfl⟩
              go_wp2_with fail
              refine errNew_any.mono ?_
              rintro e w4 ⟨rfl, rfl⟩
              go_wp2
              go_ret2
              unfold NxPost
              rw [HON.out, HFB.out]
              obtain ⟨e1, e2, e3, e4⟩ := hEA.out _
              exact ⟨e1, _, rfl, e2, e3, e4⟩
            | false =>
              have hlt2 : rr.length + 1 < gk := by omega
              by_cases hp0 : parts = 0
              · have hon2 : Hid (nextB bd parts false nl2 rr = res) := by
                  have := HON.out
                  rw [HFB.out] at this
                  simp only [Bool.false_eq_true, if_false, hp0, if_true] at this
                  rw [hp0]; exact this.symm
                have hpz : ((parts : Int) == 0) = true := by rw [beq_iff_eq]; omega
                clear hp0
                go_wp2_with fail
                refine hfi3.out.mono ?_
                rintro e w4 ⟨rfl, rfl⟩
                go_wp2
                go_roundg (rr.length + 1)
                case measure => exact hlt2
                case rel => exact ⟨nl2, rr, false, rfl, hnin, hon2, Nat.le_refl _⟩
              · have hpz : ((parts : Int) == 0) = false := by rw [beq_eq_false_iff_ne]; omega
                have HON2' := HON.out
                rw [HFB.out] at HON2'
                simp only [Bool.false_eq_true, if_false, hp0] at HON2'
                have HON2 := Lib.hid HON2'; clear hp0 HON2'
                by_cases heq : ln = nl2
                · have hev : (ln == nl2) = true := by simpa using heq
                  have hon2 : Hid (nextB bd parts true nl2 rr = res) := by
                    have := HON2.out
                    rw [if_pos heq] at this
                    exact this.symm
                  rw [hev] at heqv
                  clear heq hev
                  go_wp2_with fail
                  refine hfi3.out.mono ?_
                  rintro e w4 ⟨rfl, rfl⟩
                  go_wp2_with (go_at_call 20; refine heqv.out.mono ?_; rintro e w4 ⟨rfl, rfl⟩)
                  go_roundg (rr.length + 1)
                  case measure => exact hlt2
                  case rel => exact ⟨nl2, rr, true, rfl, hnin, hon2, Nat.le_refl _⟩
                · have hev : (ln == nl2) = false := by simpa using heq
                  have hon2' := HON2.out
                  rw [if_neg heq] at hon2'
                  have hon2 := Lib.hid hon2'; clear hon2'
                  rw [hev] at heqv
                  clear heq hev
                  go_wp2_with fail
                  refine hfi3.out.mono ?_
                  rintro e w4 ⟨rfl, rfl⟩
                  go_wp2_with (first | (go_at_call 20; refine heqv.out.mono ?_; rintro e w4 ⟨rfl, rfl⟩) | (go_at_call 44; refine errNew_any.mono ?_; rintro e w4 ⟨rfl, rfl⟩))
                  go_ret2
                  unfold NxPost
                  rw [hon2.out]
                  obtain ⟨e1, e2, e3, e4⟩ := hEA.out _
                  exact ⟨e1, _, rfl, e2, e3, e4⟩
end Go.Proofs.YtekndndhgkdggaaGreatDoor

namespace Go.Proofs.YtekndndhgkdggaaGreatDoor
open Go.RowKit

set_option maxRecDepth 100000 in
theorem maxHdr_any (w : World) : Calls Tryz.prog 36 #[] w fun e w' => e = .returned (.int .i64 10000) ∧ w = w' := by
  go_enter Tryz.func36, Tryz.ntmps36
  go_wp2
  go_ret
  exact ⟨rfl, rfl⟩

theorem NxPost.two {B : Nat} {g : Nat → Addr} {h : Hs} {S C : List Nat} {MR : Nat} {bd : Bs} {parts : Nat} {w : World} {res : Bool × Nat × Bs × Bs} {e : Ending} {w' : World} (hp : NxPost B g h S C MR bd parts w res e w') : ∃ a b, e = .returned (.tuple #[a, b]) := by
  unfold NxPost at hp
  obtain ⟨_, hp⟩ := hp
  split at hp
  · cases hh : hdrB res.2.2.1 with
    | ok fs r => rw [hh] at hp; obtain ⟨_, _, _, _, _, _, _, rfl, _⟩ := hp; exact ⟨_, _, rfl⟩
    | early => rw [hh] at hp; exact ⟨_, _, hp⟩
    | wrong => rw [hh] at hp; obtain ⟨_, rfl, _⟩ := hp; exact ⟨_, _, rfl⟩
  · split at hp
    · exact ⟨_, _, hp⟩
    · split at hp
      · obtain ⟨_, rfl, _⟩ := hp; exact ⟨_, _, rfl⟩
      · obtain ⟨_, rfl, _⟩ := hp; exact ⟨_, _, rfl⟩

set_option maxRecDepth 100000 in
set_option maxHeartbeats 1000000 in
theorem nextRaw2_any {B : Nat} {g : Nat → Addr} {h : Hs} {S C : List Nat} {w : World} {MR : Nat} {bd nl : Bs} {cur : Value} {parts : Nat} {rem : Bs} (hs : NSt B g h S w MR bd nl cur parts rem) (hbd : bd ≠ []) (hnl : 0 < nl.length) (hf : parts = 0 → nl = [13, 10]) (hp9 : parts ≤ 500) (hC : ∀ x ∈ h.all, x ∈ C) (hC2 : ∀ PP, cur = .pointer (some ⟨PP, 0, none⟩) → PP ∈ C) :
    Calls Tryz.prog 17 #[.pointer (some ⟨MR, 0, none⟩)] w (NxPost B g h S C MR bd parts w (nextB bd parts false nl rem)) := by
  have hr := Lib.hid (nextPart_any hs hbd hnl hf hp9 true (fun _ => newRaw_c B g h _) hC hC2); clear hs hf hC hC2
  go_enter Tryz.func17, Tryz.ntmps17
  go_wp2_with (first | (go_at_call 36; refine (maxHdr_any _).mono ?_; rintro e w' ⟨rfl, rfl⟩) | fail)
  refine hr.out.mono ?_
  rintro e w' hp
  obtain ⟨a, b, rfl⟩ := hp.two
  have hp := Lib.hid hp
  go_wp2
  go_ret2
  exact hp.out
set_option maxRecDepth 100000 in
set_option maxHeartbeats 1000000 in
theorem nextPart2_any {B : Nat} {g : Nat → Addr} {h : Hs} {S C : List Nat} {w : World} {MR : Nat} {bd nl : Bs} {cur : Value} {parts : Nat} {rem : Bs} (hs : NSt B g h S w MR bd nl cur parts rem) (hbd : bd ≠ []) (hnl : 0 < nl.length) (hf : parts = 0 → nl = [13, 10]) (hp9 : parts ≤ 500) (hnp : (nextB bd parts false nl rem).1 = true → NpC B g h false (nextB bd parts false nl rem).2.2.1) (hC : ∀ x ∈ h.all, x ∈ C) (hC2 : ∀ PP, cur = .pointer (some ⟨PP, 0, none⟩) → PP ∈ C) :
    Calls Tryz.prog 16 #[.pointer (some ⟨MR, 0, none⟩)] w (NxPost B g h S C MR bd parts w (nextB bd parts false nl rem)) := by
  have hr := Lib.hid (nextPart_any hs hbd hnl hf hp9 false hnp hC hC2); clear hs hf hC hC2 hnp
  go_enter Tryz.func16, Tryz.ntmps16
  go_wp2_with (first | (go_at_call 36; refine (maxHdr_any _).mono ?_; rintro e w' ⟨rfl, rfl⟩) | fail)
  refine hr.out.mono ?_
  rintro e w' hp
  obtain ⟨a, b, rfl⟩ := hp.two
  have hp := Lib.hid hp
  go_wp2
  go_ret2
  exact hp.out
end Go.Proofs.YtekndndhgkdggaaGreatDoor

namespace Go.Proofs.YtekndndhgkdggaaGreatDoor
open Go.RowKit

set_option maxRecDepth 100000 in
theorem bytesNew_any {w : World} {a : Option Addr} {n c : Nat} : Calls Tryz.prog 15 #[.slice a n c] w fun e w' => e = .returned (.pointer (some ⟨w.heap.size, 0, none⟩)) ∧ w' = w.alloc (.cells #[.slice a n c, .int .i64 0, .int .i64 (-1)] 83) := by
  go_enter Tryz.func15, Tryz.ntmps15
  go_wp2
  go_ret
  exact ⟨rfl, rfl⟩

def SzPost (ST : Nat) (w : World) (e : Ending) (w' : World) : Prop :=
  e = .returned (.pointer (some ⟨w.heap.size, 0, none⟩)) ∧ Chg [] w w' ∧ Blk w' w.heap.size #[.slice (some ⟨w.heap.size + 1, 0, none⟩) 4096 4096, .iface 77 (.pointer (some ⟨ST, 0, none⟩)), .int .i64 0, .int .i64 0, .nilIface, .int .i64 (-1), .int .i64 (-1)] 98 ∧ ∃ cs, Blk w' (w.heap.size + 1) cs 5 ∧ cs.size = 4096

set_option maxRecDepth 100000 in
set_option maxHeartbeats 2000000 in
theorem newSize_any {w : World} {ST : Nat} : Calls Tryz.prog 34 #[.iface 77 (.pointer (some ⟨ST, 0, none⟩)), .int .i64 4096] w (SzPost ST w) := by
  have hmk := run_make_row' (P := Tryz.prog) 22 5 (.int .u8 0) 1 (by kernel_rfl) info5 rfl .i64 .i64 4096 (by omega) (by omega)
  have hmx : (max 4096 16 : Int) = 4096 := rfl
  have hmk2 : ∀ Wd : World, (Instr.makeSlice 22 (.int .i64 4096) (.int .i64 4096)).run Tryz.prog Wd = .ok (.slice (some ⟨Wd.heap.size, 0, none⟩) 4096 4096) (Wd.alloc (.cells (madeCells #[.int .u8 0] 4096) 5)) := fun Wd => hmk Wd
  have hsz : (madeCells #[.int .u8 0] 4096).size = 4096 := by simp [madeCells]
  generalize madeCells #[.int .u8 0] 4096 = CS at hmk2 hsz hmk
  clear hmk
  have hta : ∀ Wd, (Instr.typeAssert (.iface 77 (.pointer (some ⟨ST, 0, none⟩))) 74 75 true).run Tryz.prog Wd = .ok (.tuple #[.pointer none, .bool false]) Wd := fun Wd => by kernel_rfl
  go_enter Tryz.func34, Tryz.ntmps34
  go_wp2
  go_ret
  refine ⟨rfl, ((Chg.refl [] w).alloc _).alloc _, ?_, CS, ?_, hsz⟩
  · exact (Blk.new w _ 98).alloc _
  · exact Blk.at_ _ (by simp) _ _

def NrPost (RD : Nat) (bd : Bs) (w : World) (e : Ending) (w' : World) : Prop :=
  ∃ h : Hs, ∃ MR, h.RD = RD ∧ e = .returned (.pointer (some ⟨MR, 0, none⟩)) ∧ Chg [] w w' ∧ (∀ x ∈ [h.ST, h.BR, h.U, MR], w.heap.size ≤ x) ∧ h.ST ≠ h.BR ∧ h.ST ≠ h.U ∧ h.BR ≠ h.U ∧ MR ∉ [h.ST, h.BR, h.U] ∧
    Blk w' h.BR (brc h 0 0 .nilIface (-1) (-1)) 98 ∧ Blk w' h.ST #[.iface 49 (.pointer (some ⟨RD, 0, none⟩)), .nilIface] 79 ∧ (∃ cs T, Blk w' h.U cs T ∧ cs.size = 4096) ∧
    (RD < w.heap.size → MRS h.all w' MR h bd [13, 10] (.pointer none) 0)

theorem bd_lists (bd : Bs) : (13 :: 10 :: 45 :: 45 :: (bd ++ [45, 45]) : Bs).take 2 = [13, 10] ∧ (13 :: 10 :: 45 :: 45 :: (bd ++ [45, 45]) : Bs).take (bd.length + 6 - 2) = [13, 10] ++ [45, 45] ++ bd ∧ (13 :: 10 :: 45 :: 45 :: (bd ++ [45, 45]) : Bs).drop 2 = [45, 45] ++ bd ++ [45, 45] ∧ ((13 :: 10 :: 45 :: 45 :: (bd ++ [45, 45]) : Bs).drop 2).take (bd.length + 6 - 2 - 2) = [45, 45] ++ bd := by
  refine ⟨by simp, ?_, by simp, ?_⟩ <;> simp [List.take_append]

set_option maxRecDepth 100000 in
set_option maxHeartbeats 2000000 in
theorem newReader_any {w : World} {RD : Nat} {bd : Bs} (hL : bd.length ≤ 100) : Calls Tryz.prog 14 #[.iface 49 (.pointer (some ⟨RD, 0, none⟩)), .string (bstr bd)] w (NrPost RD bd w) := by
  obtain ⟨b, c, w1, hcv, hbs, hch, hb, hsz⟩ := conv9_22 w (13 :: 10 :: 45 :: 45 :: (bd ++ [45, 45]))
  obtain ⟨l1, l2, l3, l4⟩ := bd_lists bd
  have hl : (13 :: 10 :: 45 :: 45 :: (bd ++ [45, 45]) : Bs).length = bd.length + 6 := by simp
  have HB := Lib.hid (And.intro hbs (And.intro hch (And.intro hb hsz)))
  have HL := Lib.hid (And.intro l1 (And.intro l2 (And.intro l3 (And.intro l4 hl))))
  have hcn := hbs.len
  rw [hl] at hcn
  rw [hl] at hcv
  clear hbs hch hb hsz l1 l2 l3 l4 hl
  generalize hn : bd.length + 6 = n at hcv hcn
  have HN := Lib.hid hn
  clear hn
  obtain ⟨-, hnc⟩ := hcn
  have hn6 : 6 ≤ n := by have := HN.out; omega
  have hn3 : n ≤ 200 := by have := HN.out; omega
  have s1 := slice22_h (some ⟨b, 0, none⟩) n c .i64 2 (by omega) (by omega)
  have s2 := slice22_h (some ⟨b, 0, none⟩) n c .i64 ((n : Int) - 2) (by omega) (by omega)
  have s3 := slice22_l (some ⟨b, 0, none⟩) n c .i64 2 (by omega) (by omega)
  have s4 := slice22_lh (some ⟨b, 0, none⟩) n c .i64 .i64 2 ((n : Int) - 2) (by omega) (by omega) (by omega)
  have hw : IntKind.i64.wrap ((n : Int) - 2) = (n : Int) - 2 := IntWalk.i64_in _ (by omega)
  have i1 : (0 : Int) ≤ (n : Int) - 2 := by omega
  have i2 : (n : Int) - 2 ≤ (c : Int) := by omega
  have i3 : (2 : Int) ≤ (n : Int) - 2 := by omega
  go_enter Tryz.func14, Tryz.ntmps14
  go_wp2
  go_region_held3 (fun w' => True) (exact trivial) (first | (go_at_call 34; refine newSize_any.mono ?_; rintro e w3 ⟨rfl, hc3, hb3, cs, hu3, hs3⟩; have H3 := Lib.hid (And.intro hc3 (And.intro hb3 (And.intro hu3 hs3))); clear hc3 hb3 hu3 hs3))
  go_wp2
  go_ret
  obtain ⟨hc3, hb3, hu3, hs3⟩ := H3.out
  obtain ⟨hbs, hch, hb, hsz⟩ := HB.out
  obtain ⟨l1, l2, l3, l4, hl⟩ := HL.out
  have hn := HN.out
  generalize hA : w1.alloc (.cells #[.iface 49 (.pointer (some ⟨RD, 0, none⟩)), .nilIface] 79) = wA at hc3 hb3 hu3
  have hszA : wA.drew.heap.size = w1.heap.size + 1 := by rw [← hA]; simp
  have hstA : Blk wA w1.heap.size #[.iface 49 (.pointer (some ⟨RD, 0, none⟩)), .nilIface] 79 := by rw [← hA]; exact Blk.new _ _ _
  have hcA : Chg [] w1 wA := by rw [← hA]; exact (Chg.refl [] w1).alloc _
  rw [hszA] at hb3 hu3
  have hlt := hu3.lt
  have hc13 : Chg [] w1 w3 := hcA.drew.trans hc3
  have hst3 := hstA.drew.chg hc3 (by simp)
  have key : ∀ (cells : Obj), Chg [] w1 (w3.alloc cells) := fun o => hc13.alloc o
  refine ⟨⟨RD, w1.heap.size, w1.heap.size + 1, w1.heap.size + 1 + 1⟩, w3.heap.size, rfl, rfl, hch.trans (key _), ?_, by simp, by simp; omega, by simp, by simp; omega, hb3.alloc _, hst3.alloc _, ⟨cs, _, hu3.alloc _, hs3⟩, fun hRD => ⟨⟨_, _, _, _, _, Blk.new _ _ _, ?_, ?_, ?_, ?_⟩, by omega, by simp, by omega⟩⟩
  · intro x hx; simp at hx; omega
  all_goals
    obtain ⟨a', c', hv', hlc', hor⟩ := hbs
    cases hv'
    have hseg : Seg w1 b 0 (13 :: 10 :: 45 :: 45 :: (bd ++ [45, 45])) := by
      rcases hor with ⟨h1, _⟩ | ⟨b', o', h1, _, h2⟩
      · cases h1
      · cases h1; exact h2
    have hseg := fun (o : Obj) => (hseg.chg hc13 (by simp)).chg ((Chg.refl [] w3).alloc o) (by simp)
    have hnin : b ∉ w3.heap.size :: (⟨RD, w1.heap.size, w1.heap.size + 1, w1.heap.size + 1 + 1⟩ : Hs).all := by unfold Hs.all; simp; omega
    rw [hl] at hlc'
  · rw [← l1]
    exact BS.of_seg ((hseg _).take 2) (by simp) (by omega) hnin
  · rw [← l2]
    exact BS.of_seg ((hseg _).take (bd.length + 6 - 2)) (by simp; omega) (by omega) hnin
  · rw [← l3, subA_some _ _ _ _ (by omega)]
    exact BS.of_seg ((hseg _).drop 2) (by simp; omega) (by omega) hnin
  · rw [← l4, subA_some _ _ _ _ (by omega)]
    exact BS.of_seg (((hseg _).drop 2).take (bd.length + 6 - 2 - 2)) (by simp; omega) (by omega) hnin
end Go.Proofs.YtekndndhgkdggaaGreatDoor
