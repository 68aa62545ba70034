/- ReadSlice up to an end of lines. ReadByte, UnreadByte. ReadLine, skipSpace. Peek. textproto: closeDot, readLineSlice, trim. textproto's trim. Bytes of a header: which may stand in a key, in a value. textproto's bytesIndex, bytesCut at one byte. textproto's look at how many keys may come. -/
import Derived.Test.YtekndndhgkdggaaGreatDoorR6
namespace Go.Proofs.YtekndndhgkdggaaGreatDoor
open Go.RowKit

theorem idx_none {l : Bs} (h : idxB 10 l = -1) : takeLine l = (l, [], false) := by
  induction l with
  | nil => rfl
  | cons c r ih =>
    unfold idxB at h
    by_cases hc : c = 10
    · rw [if_pos hc] at h; cases h
    · rw [if_neg hc] at h
      have hr : idxB 10 r = -1 := by
        by_cases hr : idxB 10 r = -1
        · exact hr
        · rw [if_neg hr] at h; have := idxB_ge 10 r; omega
      unfold takeLine; rw [if_neg hc, ih hr]
theorem idx_some {l : Bs} {k : Nat} (h : idxB 10 l = (k : Int)) : takeLine l = (l.take (k + 1), l.drop (k + 1), true) ∧ k < l.length := by
  induction l generalizing k with
  | nil => unfold idxB at h; omega
  | cons c r ih =>
    unfold idxB at h
    by_cases hc : c = 10
    · rw [if_pos hc] at h
      have : k = 0 := by omega
      subst this
      unfold takeLine; rw [if_pos hc, hc]; simp
    · rw [if_neg hc] at h
      by_cases hr : idxB 10 r = -1
      · rw [if_pos hr] at h; omega
      · rw [if_neg hr] at h
        obtain ⟨j, hj⟩ : ∃ j, k = j + 1 := ⟨k - 1, by have := idxB_ge 10 r; omega⟩
        subst hj
        have := ih (k := j) (by omega)
        unfold takeLine; rw [if_neg hc, this.1]; simp; omega

/-- ahead of a call, nothing kept back -/
def Rdy (B : Nat) (g : Nat → Addr) (h : Hs) (w : World) (rem : Bs) : Prop := (∃ r lb lr, InS B g h w r rem .nilIface lb lr) ∨ (∃ lb lr, Fresh B g h w rem lb lr)

/-- what ReadSlice leaves -/
def RsPost (B : Nat) (g : Nat → Addr) (h : Hs) (w : World) (rem : Bs) (e : Ending) (w' : World) : Prop :=
  ∃ r0 c lb lr, e = .returned (.tuple #[.slice (some ⟨h.U, r0, none⟩) (takeLine rem).1.length c, if (takeLine rem).2.2 then .nilIface else erv (g 0)]) ∧ Chg h.all w w' ∧ (takeLine rem).1.length ≤ c ∧ Seg w' h.U r0 (takeLine rem).1 ∧
    InS B g h w' (r0 + (takeLine rem).1.length) (takeLine rem).2.1 .nilIface lb lr

def RsMid (B : Nat) (g : Nat → Addr) (h : Hs) (w : World) (rem : Bs) (w' : World) (r0 c : Nat) : Prop :=
  ∃ lb lr, Chg h.all w w' ∧ (takeLine rem).1.length ≤ c ∧ Seg w' h.U r0 (takeLine rem).1 ∧
    InS B g h w' (r0 + (takeLine rem).1.length) (takeLine rem).2.1 .nilIface lb lr

/-- how far the reading has come: the bytes that the buffer holds, whether all has been read -/
def RsIn (B : Nat) (g : Nat → Addr) (h : Hs) (w : World) (rem : Bs) (s : Nat) (wr : World) (r : Nat) (cur : Bs) (e : Value) : Prop :=
  Chg h.all w wr ∧ ((cur = rem ∧ (e = .nilIface ∨ e = erv (g 0)) ∧ (∃ lb lr, InS B g h wr r cur e lb lr) ∧ ((s = 0 ∧ e = .nilIface) ∨ (s = cur.length ∧ takeLine cur = (cur, [], false)))) ∨ (cur = [] ∧ r = 0 ∧ s = 0 ∧ e = .nilIface ∧ rem ≠ [] ∧ ∃ lb lr, Fresh B g h wr rem lb lr))

def mRS (h : Hs) (wz : World) : Nat :=
  match wz.cell? ⟨h.BR, 4, none⟩, wz.cell? ⟨h.BR, 3, none⟩ with
  | some .nilIface, some (.int _ (.ofNat 0)) => 2
  | some .nilIface, _ => 1
  | _, _ => 0

theorem mRS_ge {h : Hs} {wz : World} (h4 : wz.cell? ⟨h.BR, 4, none⟩ = some .nilIface) : 1 ≤ mRS h wz := by
  unfold mRS; rw [h4]; cases wz.cell? ⟨h.BR, 3, none⟩ with
  | none => exact Nat.le_refl _
  | some v => split <;> first | omega | (rename_i h1 h2; simp at h1; done) | simp_all
theorem mRS_0 {h : Hs} {wz : World} {p : Addr} (h4 : wz.cell? ⟨h.BR, 4, none⟩ = some (erv p)) : mRS h wz = 0 := by
  unfold mRS; rw [h4]
theorem mRS_1 {h : Hs} {wz : World} {n : Nat} (h4 : wz.cell? ⟨h.BR, 4, none⟩ = some .nilIface) (h3 : wz.cell? ⟨h.BR, 3, none⟩ = some (.int .i64 ((n + 1 : Nat) : Int))) : mRS h wz = 1 := by
  unfold mRS; rw [h4, h3]; rfl
theorem mRS_2 {h : Hs} {wz : World} (h4 : wz.cell? ⟨h.BR, 4, none⟩ = some .nilIface) (h3 : wz.cell? ⟨h.BR, 3, none⟩ = some (.int .i64 ((0 : Nat) : Int))) : mRS h wz = 2 := by
  unfold mRS; rw [h4, h3]; rfl

theorem RsIn.view {B : Nat} {g : Nat → Addr} {h : Hs} {w : World} {rem : Bs} {s : Nat} {wr : World} {r : Nat} {cur : Bs} {e : Value} (hi : RsIn B g h w rem s wr r cur e) :
    ∃ x lb lr, x = r + cur.length ∧ Blk wr h.BR (brc h r x e lb lr) 98 ∧ Seg wr h.U r cur ∧ x ≤ 3000 ∧ s ≤ cur.length ∧ h.ok B ∧ Glb B g wr := by
  rcases hi.2 with ⟨_, _, ⟨lb, lr, k⟩, hs⟩ | ⟨rfl, rfl, rfl, rfl, _, lb, lr, k⟩
  · exact ⟨_, lb, lr, rfl, k.br, k.seg, k.lt, by omega, k.ok, k.gl⟩
  · obtain ⟨cs, T, hu, _⟩ := k.u
    exact ⟨0, lb, lr, rfl, k.br, Seg.nil hu.lt, by omega, by simp, k.ok, k.gl⟩

theorem Fresh.keep {B : Nat} {g : Nat → Addr} {h : Hs} {w w' : World} {body : Bs} {lb lr : Int} (hs : Fresh B g h w body lb lr) {S : List Nat} (hc : Chg S w w') (hd : ∀ x, x ∈ S → B ≤ x ∧ x ∉ h.all) (hv : ∀ x, x ∈ S → x ∉ h.all) (hn : S = []) : Fresh B g h w' body lb lr := by
  subst hn
  have h4 : ∃ a c p, Blk w' h.RD #[.slice a body.length c, .int .i64 0, p] 83 ∧ BS h.all w' (.slice a body.length c) body := hs.rd.imp fun a k => k.imp fun c k => k.imp fun p k => ⟨k.1.chg hc (by simp), k.2.chg hc.none⟩
  have h5 : ∃ cs T, Blk w' h.U cs T ∧ cs.size = 4096 := hs.u.imp fun cs k => k.imp fun T k => ⟨k.1.chg hc (by simp), k.2⟩
  exact ⟨hs.gl.chg hc (by simp), hs.ok, hs.br.chg hc (by simp), hs.st.chg hc (by simp), h4, h5, hs.lt⟩

theorem RsIn.fills {B : Nat} {g : Nat → Addr} {h : Hs} {w : World} {rem : Bs} {s : Nat} {wr : World} {r : Nat} {cur : Bs} {e : Value} (hi : RsIn B g h w rem s wr r cur e) (he : e = .nilIface) (hK : idxB 10 (cur.drop s) = -1) (wy : World) (hy : Chg [] wr wy) :
    Calls Tryz.prog 57 #[.pointer (some ⟨h.BR, 0, none⟩)] wy fun en w' => en = .returned (.tuple #[]) ∧ Hid (∃ r' e', RsIn B g h w rem cur.length w' r' rem e') ∧ mRS h w' < mRS h wr := by
  rcases hi with ⟨hc, ⟨rfl, _, ⟨lb, lr, k⟩, hs⟩ | ⟨rfl, rfl, rfl, _, h0, lb, lr, k⟩⟩
  · subst he
    have hno : takeLine cur = (cur, [], false) := by
      rcases hs with ⟨rfl, _⟩ | ⟨_, h⟩
      · exact idx_none (by simpa using hK)
      · exact h
    refine (fill_eof (k.draw hy (by simp))).mono ?_
    rintro en w' ⟨rfl, hch, hin⟩
    have hcw : Chg h.all w w' := (hc.trans hy.none).trans (hch.mono (by unfold Hs.all; simp))
    refine ⟨rfl, ⟨0, _, hcw, .inl ⟨rfl, .inr rfl, ⟨lb, lr, hin⟩, .inr ⟨rfl, hno⟩⟩⟩, ?_⟩
    have h1 := mRS_ge (h := h) (wz := wr) (k.br.cell 4)
    have h2 := mRS_0 (h := h) (wz := w') (p := g 0) (hin.br.cell 4)
    omega
  · refine (fill_first (k.keep hy (by simp) (by simp) rfl) h0).mono ?_
    rintro en w' ⟨rfl, hch, hin⟩
    have hcw : Chg h.all w w' := (hc.trans hy.none).trans hch
    refine ⟨rfl, ⟨0, _, hcw, .inl ⟨rfl, .inl rfl, ⟨lb, lr, hin⟩, .inl ⟨rfl, rfl⟩⟩⟩, ?_⟩
    have h1 := mRS_2 (h := h) (wz := wr) (k.br.cell 4) (k.br.cell 3)
    obtain ⟨n, hn⟩ : ∃ n, rem.length = n + 1 := ⟨rem.length - 1, by have := List.length_pos_iff.2 h0; omega⟩
    have hb := hin.br
    rw [Nat.zero_add, hn] at hb
    have h2 := mRS_1 (h := h) (wz := w') (n := n) (hb.cell 4) (hb.cell 3)
    omega

set_option maxRecDepth 100000 in
set_option maxHeartbeats 1000000 in
theorem readSlice_any {B : Nat} {g : Nat → Addr} {h : Hs} {w : World} {rem : Bs} (hs : Rdy B g h w rem) :
    Calls Tryz.prog 45 #[.pointer (some ⟨h.BR, 0, none⟩), .int .u8 10] w (RsPost B g h w rem) := by
  have START : Hid (∃ r cur e, RsIn B g h w rem 0 w r cur e) := by
    rcases hs with ⟨r, lb, lr, k⟩ | ⟨lb, lr, k⟩
    · exact ⟨r, rem, _, Chg.refl _ _, .inl ⟨rfl, .inl rfl, ⟨lb, lr, k⟩, .inl ⟨rfl, rfl⟩⟩⟩
    · by_cases h0 : rem = []
      · subst h0; exact ⟨0, [], _, Chg.refl _ _, .inl ⟨rfl, .inl rfl, ⟨lb, lr, k.nil⟩, .inl ⟨rfl, rfl⟩⟩⟩
      · exact ⟨0, [], _, Chg.refl _ _, .inr ⟨rfl, rfl, rfl, rfl, h0, lb, lr, k⟩⟩
  clear hs
  go_enter Tryz.func45, Tryz.ntmps45
  go_upto_block 0 with (fail)
  go_cut [4, 5] (fun v4 v5 wz => ∃ (r0 c : Nat), v4 = .slice (some ⟨h.U, r0, none⟩) (takeLine rem).1.length c ∧ Hid (v5 = if (takeLine rem).2.2 then .nilIface else erv (g 0)) ∧ Hid (RsMid B g h w rem wz r0 c))
  case rest =>
    obtain ⟨r0, c, rfl, hv5, HM⟩ := hcut
    obtain ⟨lb, lr, hch, hlc, hseg, hin⟩ := HM.out
    have hx := hin.lt
    obtain ⟨n, hn⟩ : ∃ n, n = (takeLine rem).1.length := ⟨_, rfl⟩
    have hb := hin.br
    obtain ⟨x, hxe⟩ : ∃ x, x = r0 + (takeLine rem).1.length + (takeLine rem).2.1.length := ⟨_, rfl⟩
    rw [← hxe] at hb hx
    obtain ⟨c0, c1, c2, c3, c4, c5, c6, f2, f3, f4, f5, f6⟩ := br_cells hb
    have hv5 := hv5.out
    generalize hgv : (if (takeLine rem).2.2 then Value.nilIface else erv (g 0)) = W5 at hv5
    subst hv5
    by_cases h0 : (takeLine rem).1 = []
    · have hn0 : n = 0 := by rw [hn, h0]; rfl
      have HX := Lib.hid (And.intro hch (And.intro hlc (And.intro hseg (And.intro hin (And.intro hgv (And.intro hxe h0)))))); clear hch hlc hseg hin hgv hxe h0 HM hb
      rw [← hn]
      have HN := Lib.hid hn; clear hn
      subst hn0
      have hw : IntKind.i64.wrap (((0 : Nat) : Int) - 1) = -1 := by decide
      go_wp2
      go_ret2
      obtain ⟨hch, hlc, hseg, hin, hgv, hxe, h0⟩ := HX.out
      refine ⟨r0, c, lb, lr, ?_, hch, hlc, hseg, hin⟩
      rw [hgv, ← HN.out]; rfl
    · obtain ⟨m, hm⟩ : ∃ m, n = m + 1 := ⟨n - 1, by have := List.length_pos_iff.2 h0; omega⟩
      have hcell := hseg.cell m (by omega)
      generalize (takeLine rem).1.getD m 0 = d at hcell
      have hb2 := (hb.set 5 (.int .i64 (d.toNat : Int))).set 6 (.int .i64 (-1))
      have HX := Lib.hid (And.intro hch (And.intro hlc (And.intro hseg (And.intro hin (And.intro hgv (And.intro hxe hb2)))))); clear hch hlc hseg hin hgv hxe h0 HM hb hb2
      rw [← hn]
      have HN := Lib.hid hn; clear hn
      subst hm
      have hm3 : m ≤ 3000 := by have := HX.out.2.2.2.2.2.1; have := HN.out; omega
      have hd := d.toNat_lt
      have hwd : IntKind.i64.wrap (d.toNat : Int) = (d.toNat : Int) := IntWalk.i64_in _ (by omega)
      have HXX := Lib.hid hx; clear hx
      go_wp2
      go_ret2
      obtain ⟨hch, hlc, hseg, hin, hgv, hxe, hb2⟩ := HX.out
      have hcc : Chg [h.BR] wc ((wc.setCell ⟨h.BR, 5, none⟩ (.int .i64 (d.toNat : Int))).setCell ⟨h.BR, 6, none⟩ (.int .i64 (-1))) := ((Chg.refl _ wc).setCell (.inl (by simp)) _).setCell (.inl (by simp)) _
      refine ⟨r0, c, d.toNat, -1, ?_, hch.trans (hcc.mono (by unfold Hs.all; simp)), hlc, hseg.chg hcc (by have := hin.ok.n34; simp; omega), ?_⟩
      · rw [hgv, ← HN.out]; rfl
      · exact hin.rep hcc (by rw [← hxe]; exact hb2) rfl (fun i hi => by rw [show i + (r0 + (takeLine rem).1.length) - (r0 + (takeLine rem).1.length) = i from by omega]) (Nat.le_refl _)
  case first =>
  go_wp2
  go_loopw [5, 6] (fun v5 v wr => v5 = .nilIface ∧ ∃ (s : Nat) (r : Nat) (cur : Bs) (e : Value), v = .int .i64 (s : Int) ∧ Hid (RsIn B g h w rem s wr r cur e)) (fun _ _ wr => mRS h wr)
  case atStart => obtain ⟨r, cur, e, k⟩ := START.out; exact ⟨rfl, 0, r, cur, e, rfl, k⟩
  case round =>
    obtain ⟨rfl, s, r, cur, e, rfl, HI⟩ := hrel
    obtain ⟨x, lb, lr, hx, hb, hseg, hx3, hsl, ho, hgl⟩ := HI.out.view
    obtain ⟨c0, c1, c2, c3, c4, _, _, f2, f3, f4, f5, f6⟩ := br_cells hb
    have hwr : IntKind.i64.wrap ((r : Int) + (s : Int)) = ((r + s : Nat) : Int) := by rw [IntWalk.i64_in _ (by omega)]; omega
    have sl := fun wy => slice22_lh (some ⟨h.U, 0, none⟩) 4096 4096 .i64 .i64 ((r + s : Nat) : Int) (x : Int) (by omega) (by omega) (by omega) wy
    simp only [Int.toNat_natCast] at sl
    have hbs : ∀ n, BS [] (wr.drewN n) (.slice (subA (some ⟨h.U, 0, none⟩) 4096 (r + s)) (x - (r + s)) (4096 - (r + s))) (cur.drop s) := fun n => by
      rw [subA_some _ _ _ _ (by omega), Nat.zero_add]
      exact BS.of_seg ((hseg.drop s).chg ((Chg.refl [] _).drewN n) (by simp)) (by simp; omega) (by omega) (by simp)
    have hidx := fun n => (indexByte_any 10 (hbs n)).mono (fun _ _ k => And.intro k.1 k.2.symm)
    obtain ⟨K, hK⟩ : ∃ K, K = idxB 10 (cur.drop s) := ⟨_, rfl⟩
    rw [← hK] at hidx
    generalize Value.slice (subA (some ⟨h.U, 0, none⟩) 4096 (r + s)) (x - (r + s)) (4096 - (r + s)) = V at sl hidx hbs
    obtain ⟨q, hq⟩ : ∃ q, q = r + s := ⟨_, rfl⟩
    rw [← hq] at hwr sl
    have HV := Lib.hid (And.intro hx (And.intro hb (And.intro hseg (And.intro hbs (And.intro hK hq))))); clear hx hb hseg hbs hK hq
    go_wp2
    go_quiet ((go_at_call 54; exact Calls.quiet_of_same (hidx _)))
    have hcd : Chg [] wr (wr.drewN nq) := (Chg.refl _ _).drewN nq
    have hbd := HV.out.2.1.drewN nq
    have hrx : r ≤ x := by have := HV.out.1; omega
    clear c0 c1 c2 c3 c4 f2 f3 f4 f5 f6 hidx sl
    generalize wr.drewN nq = wd at *
    clear nq
    obtain ⟨c0, c1, c2, c3, c4, _, _, f2, f3, f4, f5, f6⟩ := br_cells hbd
    have hbuf := fun k => buffered_q hbd (And.intro hrx (show x ≤ 4096 by omega)) k
    have HD := Lib.hid (And.intro hcd hbd); clear hcd hbd
    by_cases hk : K = -1
    · by_cases he : e = .nilIface
      · have hfill := HI.out.fills he (by rw [← HV.out.2.2.2.2.1]; exact hk)
        have hlen : x - r = cur.length := by have := HV.out.1; omega
        rw [hlen] at hbuf
        have hge : decide ((cur.length : Int) ≥ 4096) = false := by simp; omega
        have hwr2 : IntKind.i64.wrap ((x : Int) - (r : Int)) = ((cur.length : Nat) : Int) := by rw [IntWalk.i64_in _ (by omega)]; omega
        have HE := Lib.hid (And.intro hx3 (And.intro hsl (And.intro hlen hrx))); clear hx3 hsl hlen hrx
        subst hk
        subst he
        go_wp2
        go_quiet ((go_at_call 56; exact hbuf _))
        go_wp2
        go_quiet (fail)
        go_wp2_with fail
        refine (hfill _ (HD.out.1.drewN _)).mono ?_
        rintro en w2 ⟨rfl, hr2, hm2⟩
        go_wp2
        go_roundw
        case measure => exact hm2
        case rel => obtain ⟨r', e', k⟩ := hr2.out; exact ⟨rfl, cur.length, r', rem, e', rfl, k⟩
      · obtain ⟨hch, hin⟩ := HI.out
        rcases hin with ⟨rfl, heo, ⟨lb1, lr1, hin⟩, hs⟩ | ⟨_, _, _, rfl, _⟩
        · have heo : e = erv (g 0) := heo.resolve_left he
          clear he
          subst heo
          have hno : takeLine cur = (cur, [], false) := by
            rcases hs with ⟨rfl, _⟩ | ⟨_, h⟩
            · exact idx_none (by have := HV.out.2.2.2.2.1; rw [hk] at this; simpa using this.symm)
            · exact h
          have hlen : x - r = cur.length := by have := HV.out.1; omega
          have hxe := HV.out.1
          have sl2 := fun wy => slice22_lh (some ⟨h.U, 0, none⟩) 4096 4096 .i64 .i64 (r : Int) (x : Int) (by omega) (by omega) (by omega) wy
          simp only [Int.toNat_natCast] at sl2
          rw [subA_some _ _ _ _ (by omega), Nat.zero_add, hlen] at sl2
          have hind : ∀ wy, Chg [] wd wy → InS B g h (wy.setCell ⟨h.BR, 2, none⟩ (.int .i64 (x : Int))) x [] (erv (g 0)) lb1 lr1 ∧ Chg [h.BR] wr (wy.setCell ⟨h.BR, 2, none⟩ (.int .i64 (x : Int))) := fun wy hy => by
            have hc : Chg [h.BR] wr (wy.setCell ⟨h.BR, 2, none⟩ (.int .i64 (x : Int))) := ((HD.out.1.trans hy).none).setCell (.inl (by simp)) _
            refine ⟨hin.rep hc ?_ (by simp; omega) (fun i hi => by cases hi) hrx, hc⟩
            have := (hin.br.chg (HD.out.1.trans hy) (by simp)).set 2 (.int .i64 (x : Int))
            exact this
          subst hk
          have HX := Lib.hid (And.intro hch (And.intro hin (And.intro hno (And.intro hxe (And.intro hlen hrx))))); clear hch hin hno hxe hlen hrx hs
          go_wp2
          go_quiet (fail)
          have HW := Lib.hid (hind _ ((Chg.refl [] wd).drewN nq)); clear hind
          go_wp2_with fail
          refine (readErr_any HW.out.1).mono ?_
          rintro en w2 ⟨rfl, hc2, hin2⟩
          have HW2 := Lib.hid (And.intro hc2 hin2); clear hc2 hin2
          go_wp2
          go_meet
          obtain ⟨hch, hin, hno, hxe, hlen, hrx⟩ := HX.out
          refine ⟨r, 4096 - r, by rw [hno], by unfold Hid; rw [hno]; rfl, lb1, lr1, (hch.trans (HW.out.2.mono ?_)).trans (HW2.out.1.mono ?_), by rw [hno]; simp; omega, ?_, ?_⟩
          · unfold Hs.all; simp
          · unfold Hs.all; simp
          · rw [hno]; exact (hin.seg.chg HW.out.2 (by have := ho.n34; simp; omega)).chg HW2.out.1 (by have := ho.n34; simp; omega)
          · rw [hno]; simp only []; rw [← hxe]; exact HW2.out.2
        · exact absurd rfl he
    · obtain ⟨hch, hin⟩ := HI.out
      have hge := idxB_ge 10 (cur.drop s)
      rw [← HV.out.2.2.2.2.1] at hge
      obtain ⟨k, rfl⟩ : ∃ k : Nat, K = (k : Int) := ⟨K.toNat, by omega⟩
      have hsome := idx_some HV.out.2.2.2.2.1.symm
      rcases hin with ⟨rfl, heo, ⟨lb1, lr1, hin⟩, hs⟩ | ⟨rfl, _, rfl, rfl, _⟩
      · have hs0 : s = 0 := by
          rcases hs with ⟨h, _⟩ | ⟨h, _⟩
          · exact h
          · rw [h] at hsome; simp at hsome
        have heo : e = .nilIface := by
          rcases hs with ⟨_, h⟩ | ⟨h, _⟩
          · exact h
          · rw [h] at hsome; simp at hsome
        have hqr : q = r := by rw [HV.out.2.2.2.2.2, hs0]; rfl
        clear hs
        rw [hs0] at hsome
        simp only [List.drop_zero] at hsome
        have hxe := HV.out.1
        obtain ⟨z, hz⟩ : ∃ z, z = r + k + 1 := ⟨_, rfl⟩
        have sl2 := fun wy => slice22_lh (some ⟨h.U, 0, none⟩) 4096 4096 .i64 .i64 (r : Int) (z : Int) (by omega) (by omega) (by omega) wy
        simp only [Int.toNat_natCast] at sl2
        rw [subA_some _ _ _ _ (by omega), Nat.zero_add, show z - r = k + 1 from by omega] at sl2
        have w1 : IntKind.i64.wrap ((k : Int) + ((0 : Nat) : Int)) = (k : Int) := by rw [IntWalk.i64_in _ (by omega)]; omega
        have w1' : IntKind.i64.wrap (k : Int) = (k : Int) := IntWalk.i64_in _ (by omega)
        obtain ⟨m, hm⟩ : ∃ m, m = r + k := ⟨_, rfl⟩
        obtain ⟨j, hj⟩ : ∃ j, j = k + 1 := ⟨_, rfl⟩
        have w2 : IntKind.i64.wrap ((r : Int) + (k : Int)) = (m : Int) := by rw [IntWalk.i64_in _ (by omega)]; omega
        have w3 : IntKind.i64.wrap ((m : Int) + 1) = (z : Int) := by rw [IntWalk.i64_in _ (by omega)]; omega
        have w4 : IntKind.i64.wrap ((k : Int) + 1) = (j : Int) := by rw [IntWalk.i64_in _ (by omega)]; omega
        have w5 : IntKind.i64.wrap ((r : Int) + (j : Int)) = (z : Int) := by rw [IntWalk.i64_in _ (by omega)]; omega
        have hgek : decide ((k : Int) ≥ 0) = true := by simp
        have HX := Lib.hid (And.intro hch (And.intro hin (And.intro hsome (And.intro hxe (And.intro hz heo))))); clear hch hin hsome hxe hz hm hj heo hge
        subst hs0
        go_wp2
        go_quiet (fail)
        go_wp2
        go_meet
        obtain ⟨hch, hin, hsome, hxe, hz, heo⟩ := HX.out
        have hkl : (cur.take (k + 1)).length = k + 1 := by simp; omega
        have hcd : Chg [h.BR] wr ((wd.drewN nq).setCell ⟨h.BR, 2, none⟩ (.int .i64 (z : Int))) := ((HD.out.1.drewN nq).none).setCell (.inl (by simp)) _
        have hbz := (hin.br.chg (HD.out.1.drewN nq) (by simp)).set 2 (.int .i64 (z : Int))
        have hin2 : InS B g h ((wd.drewN nq).setCell ⟨h.BR, 2, none⟩ (.int .i64 (z : Int))) z (cur.drop (k + 1)) e lb1 lr1 := hin.rep hcd hbz (by simp; omega) (fun i hi => by
          simp [List.getD]; rw [show k + 1 + i = i + z - r from by omega]) (by omega)
        refine ⟨r, 4096 - r, by rw [hsome.1, hkl], by unfold Hid; rw [hsome.1]; rfl, lb1, lr1, hch.trans (hcd.mono (by unfold Hs.all; simp)), by rw [hsome.1, hkl]; omega, ?_, ?_⟩
        · rw [hsome.1]; exact (hin.seg.take (k + 1)).chg hcd (by have := ho.n34; simp; omega)
        · rw [hsome.1, hkl, heo] at *; rw [show r + (k + 1) = z from by omega]; exact hin2
      · exfalso; simp at hsome
end Go.Proofs.YtekndndhgkdggaaGreatDoor

namespace Go.Proofs.YtekndndhgkdggaaGreatDoor
open Go.RowKit

set_option maxRecDepth 100000 in
set_option maxHeartbeats 1000000 in
theorem readByte_some {B : Nat} {g : Nat → Addr} {h : Hs} {w : World} {r : Nat} {c : UInt8} {rem : Bs} {lb lr : Int} (hs : InS B g h w r (c :: rem) .nilIface lb lr) :
    Calls Tryz.prog 116 #[.pointer (some ⟨h.BR, 0, none⟩)] w fun e w' => e = .returned (.tuple #[bv c, .nilIface]) ∧ Chg [h.BR] w w' ∧ InS B g h w' (r + 1) rem .nilIface (c.toNat : Int) (-1) := by
  have hl := hs.lt
  simp only [List.length_cons] at hl
  obtain ⟨x, hx⟩ : ∃ x, x = r + (rem.length + 1) := ⟨_, rfl⟩
  have hb := hs.br
  simp only [List.length_cons] at hb
  rw [← hx] at hb hl
  have hseg := hs.seg
  have hcell := hseg.cell 0 (by simp)
  simp only [Nat.add_zero, List.getD_cons_zero] at hcell
  have ho := hs.ok
  have hUB : h.U ≠ h.BR := Ne.symm ho.n34
  obtain ⟨c0, c1, c2, c3, c4, c5, c6, f2, f3, f4, f5, f6⟩ := br_cells hb
  have hrx : ((r : Int) == (x : Int)) = false := by rw [beq_eq_false_iff_ne]; omega
  have hr3 : r < 3000 := by omega
  have hc8 := c.toNat_lt
  have hcell2 : (w.setCell ⟨h.BR, 6, none⟩ (.int .i64 (-1))).cell? ⟨h.U, r, none⟩ = some (bv c) := by
    rw [World.cell?_of_block (w := w) (Below.heap_setCell _ _ _ _ hUB)]; exact hcell
  have H := Lib.hid (And.intro hs (And.intro hb hx)); clear hs hb hx hseg hl
  go_enter Tryz.func116, Tryz.ntmps116
  go_wp2
  refine wp_loop_rounds 1 ?_; rw [rounds_succ]
  go_wp2
  go_quiet (fail)
  go_wp2
  go_quiet (fail)
  go_wp2
  go_ret2
  obtain ⟨hs, hb, hx⟩ := H.out
  have hc : ∀ k, Chg [h.BR] w ((((w.setCell ⟨h.BR, 6, none⟩ (.int .i64 (-1))).drewN k).setCell ⟨h.BR, 2, none⟩ (.int .i64 ((r : Int) + 1))).setCell ⟨h.BR, 5, none⟩ (.int .i64 (c.toNat : Int))) := fun k =>
    ((((Chg.refl _ w).setCell (.inl (by simp)) _).drewN k).setCell (.inl (by simp)) _).setCell (.inl (by simp)) _
  have hb2 := fun k => (((hb.set 6 (.int .i64 (-1))).drewN k).set 2 (.int .i64 ((r : Int) + 1))).set 5 (.int .i64 (c.toNat : Int))
  refine ⟨rfl, hc _, hs.rep (hc _) (by simp only [List.length_cons]; rw [← hx]; exact hb2 _) (by simp; omega) (fun i hi => by rw [show i + (r + 1) - r = i + 1 from by omega]; rfl) (by omega)⟩

set_option maxRecDepth 100000 in
set_option maxHeartbeats 1000000 in
theorem readByte_none {B : Nat} {g : Nat → Addr} {h : Hs} {w : World} {r : Nat} {lb lr : Int} (hs : InS B g h w r [] .nilIface lb lr) :
    Calls Tryz.prog 116 #[.pointer (some ⟨h.BR, 0, none⟩)] w fun e w' => e = .returned (.tuple #[.int .u8 0, erv (g 0)]) ∧ Chg h.all w w' ∧ ∃ r' lb' lr', InS B g h w' r' [] .nilIface lb' lr' := by
  have hb := hs.br
  simp only [List.length_nil, Nat.add_zero] at hb
  obtain ⟨c0, c1, c2, c3, c4, c5, c6, f2, f3, f4, f5, f6⟩ := br_cells hb
  have hc : ∀ k, Chg [h.BR] w ((w.setCell ⟨h.BR, 6, none⟩ (.int .i64 (-1))).drewN k) := fun k => ((Chg.refl _ w).setCell (.inl (by simp)) _).drewN k
  have hin : ∀ k, InS B g h ((w.setCell ⟨h.BR, 6, none⟩ (.int .i64 (-1))).drewN k) r [] .nilIface lb (-1) := fun k => hs.rep (hc k) (by simp only [List.length_nil, Nat.add_zero]; exact (hb.set 6 (.int .i64 (-1))).drewN k) rfl (fun i hi => by cases hi) (Nat.le_refl _)
  have H := Lib.hid (And.intro hc hin); clear hs hb hc hin
  go_enter Tryz.func116, Tryz.ntmps116
  go_wp2
  refine wp_loop_rounds 2 ?_; rw [rounds_succ]
  go_wp2
  go_quiet (fail)
  go_wp2_with fail
  refine (fill_eof (H.out.2 _)).mono ?_
  rintro e w2 ⟨rfl, hc2, hin2⟩
  have hb2 := hin2.br
  simp only [List.length_nil, Nat.add_zero] at hb2
  obtain ⟨d0, d1, d2, d3, d4, d5, d6, _, _, _, _, _⟩ := br_cells hb2
  have H2 := Lib.hid (And.intro hc2 (And.intro hin2 (H.out.1 nq))); clear hc2 hin2 hb2
  go_wp2
  rw [rounds_succ]
  go_wp2
  go_quiet (fail)
  go_wp2_with fail
  refine (readErr_any (H2.out.2.1.draw ((Chg.refl [] w2).drewN _) (by simp))).mono ?_
  rintro e w3 ⟨rfl, hc3, hin3⟩
  have H3 := Lib.hid (And.intro hc3 hin3); clear hc3 hin3
  go_wp2
  go_ret2
  obtain ⟨hc3, hin3⟩ := H3.out
  refine ⟨rfl, ?_, _, _, _, hin3⟩
  exact (((H2.out.2.2.mono (by unfold Hs.all; simp)).trans (H2.out.1.mono (by unfold Hs.all; simp))).drewN _).trans (hc3.mono (by unfold Hs.all; simp))

set_option maxRecDepth 100000 in
set_option maxHeartbeats 1000000 in
theorem unreadByte_any {B : Nat} {g : Nat → Addr} {h : Hs} {w : World} {r : Nat} {c : UInt8} {rem : Bs} {lr : Int} (hs : InS B g h w (r + 1) rem .nilIface (c.toNat : Int) lr) :
    Calls Tryz.prog 117 #[.pointer (some ⟨h.BR, 0, none⟩)] w fun e w' => e = .returned .nilIface ∧ Chg [h.BR, h.U] w w' ∧ InS B g h w' r (c :: rem) .nilIface (-1) (-1) := by
  have hl := hs.lt
  obtain ⟨x, hx⟩ : ∃ x, x = r + 1 + rem.length := ⟨_, rfl⟩
  have hb := hs.br
  rw [← hx] at hb hl
  have ho := hs.ok
  obtain ⟨cs, T, hu, hsz, hin⟩ := hs.u
  obtain ⟨c0, c1, c2, c3, c4, c5, c6, f2, f3, f4, f5, f6⟩ := br_cells hb
  have hc8 := c.toNat_lt
  have hc9 : c.toNat < 256 := hc8
  have hr4 : r < 4096 := by omega
  have hr5 : (r : Int) < 4096 := by omega
  have hlb : decide ((c.toNat : Int) < 0) = false := by simp
  have hr3 : r < 3000 := by omega
  obtain ⟨d, hd⟩ : ∃ d, cs[r]? = some d := ⟨cs[r]'(by omega), Array.getElem?_eq_getElem _⟩
  have hcell : w.cell? ⟨h.U, r, none⟩ = some d := by rw [hu.cell]; exact hd
  have hfz : w.frozen? ⟨h.U, r, none⟩ = false := hu.free r
  have hUB : h.U ≠ h.BR := Ne.symm ho.n34
  have hc28 : (w.setCell ⟨h.BR, 2, none⟩ (.int .i64 (r : Int))).cell? ⟨h.U, r, none⟩ = some d := by
    rw [World.cell?_of_block (w := w) (Below.heap_setCell _ _ _ _ hUB)]; exact hcell
  have hf28 : (w.setCell ⟨h.BR, 2, none⟩ (.int .i64 (r : Int))).frozen? ⟨h.U, r, none⟩ = false := by
    rw [World.frozen?_of_block (w := w) (Below.heap_setCell _ _ _ _ hUB)]; exact hfz
  have H := Lib.hid (And.intro hs (And.intro hb (And.intro hx (And.intro hu (And.intro hsz (And.intro hin hd)))))); clear hs hb hx hu hsz hin hd hl
  go_enter Tryz.func117, Tryz.ntmps117
  go_wp2
  have hq : Blk (w.setCell ⟨h.BR, 2, none⟩ (.int .i64 (r : Int))) h.BR (brc h r x .nilIface (c.toNat : Int) lr) 98 := H.out.2.1.set 2 (.int .i64 (r : Int))
  have hqu : Blk (w.setCell ⟨h.BR, 2, none⟩ (.int .i64 (r : Int))) h.U cs T := H.out.2.2.2.1.set_ne (by exact hUB) _
  have hqc : Chg [h.BR, h.U] w (w.setCell ⟨h.BR, 2, none⟩ (.int .i64 (r : Int))) := (Chg.refl _ w).setCell (.inl (by simp)) _
  have hd := H.out.2.2.2.2.2.2
  clear c0 c1 c2 c3 c4 c5 c6 f2 f3 f4 f5 f6 hcell hfz hc28 hf28
  generalize w.setCell ⟨h.BR, 2, none⟩ (.int .i64 (r : Int)) = wq at *
  obtain ⟨c0, c1, c2, c3, c4, c5, c6, f2, f3, f4, f5, f6⟩ := br_cells hq
  have hcell : wq.cell? ⟨h.U, r, none⟩ = some d := by rw [hqu.cell]; exact hd
  have hfz : wq.frozen? ⟨h.U, r, none⟩ = false := hqu.free r
  have hqu2 := hqu.drew.set r (bv c)
  have hq2 := hq.drew.set_ne (p := ⟨h.U, r, none⟩) (by exact ho.n34) (bv c)
  have hqc2 := hqc.drew.setCell (p := ⟨h.U, r, none⟩) (.inl (by simp)) (bv c)
  obtain ⟨d0, d1, d2, d3, d4, d5, d6, e2, e3, e4, e5, e6⟩ := br_cells hq2
  have hq3 := (hq2.set 5 (.int .i64 (-1))).set 6 (.int .i64 (-1))
  have hqu3 := (hqu2.set_ne (p := ⟨h.BR, 5, none⟩) (by exact hUB) (.int .i64 (-1))).set_ne (p := ⟨h.BR, 6, none⟩) (by exact hUB) (.int .i64 (-1))
  have hqc3 := (hqc2.setCell (p := ⟨h.BR, 5, none⟩) (.inl (by simp)) (.int .i64 (-1))).setCell (p := ⟨h.BR, 6, none⟩) (.inl (by simp)) (.int .i64 (-1))
  have HQ := Lib.hid (And.intro hq3 (And.intro hqu3 hqc3)); clear hqu hq hqc hqu2 hq2 hqc2 hq3 hqu3 hqc3 hd
  go_still_tail 14, (by kernel_rfl)
  change wpList _ _ _ _ _ wq.drew
  go_wp2
  go_ret
  obtain ⟨hq3, hqu3, hqc3⟩ := HQ.out
  obtain ⟨hs, hb, hx, hu, hsz, hin, hd⟩ := H.out
  refine ⟨rfl, hqc3, ?_⟩
  have n1 : h.RD ∉ [h.BR, h.U] := by have := ho.n13; have := ho.n14; simp; omega
  have n2 : h.ST ∉ [h.BR, h.U] := by have := ho.n23; have := ho.n24; simp; omega
  have h1 := hs.gl.chg hqc3 (fun x hx => by have := ho.b3; have := ho.b4; simp at hx; omega)
  have h3 := hs.st.imp fun s k => And.intro (k.1.chg hqc3 n2) k.2
  have h4 := hs.rd.imp fun a k => k.imp fun n k => k.imp fun c k => k.imp fun p k => And.intro (k.1.chg hqc3 n1) k.2
  have hl := hs.lt
  refine ⟨h1, ho, ?_, h3, h4, ⟨_, T, hqu3, by simpa using hsz, fun i hi => ?_⟩, by simp; omega⟩
  · rw [show r + (c :: rem).length = x from by simp; omega]; exact hq3
  · cases i with
    | zero => rw [Nat.add_zero, Array.getElem?_setIfInBounds, if_pos rfl, if_pos (by omega)]; rfl
    | succ j =>
      rw [Array.getElem?_setIfInBounds, if_neg (by omega), show r + (j + 1) = r + 1 + j from by omega, hin j (by simp at hi; omega)]; rfl
end Go.Proofs.YtekndndhgkdggaaGreatDoor

namespace Go.Proofs.YtekndndhgkdggaaGreatDoor
open Go.RowKit

/-- what ReadLine leaves -/
def RlPost (B : Nat) (g : Nat → Addr) (h : Hs) (w : World) (rem : Bs) (e : Ending) (w' : World) : Prop :=
  Chg h.all w w' ∧ ∃ r1 lb lr,
    match headLineB rem with
    | none => e = .returned (.tuple #[.slice none 0 0, .bool false, erv (g 0)]) ∧ InS B g h w' r1 [] .nilIface lb lr
    | some p => InS B g h w' r1 p.2 .nilIface lb lr ∧ ∃ r0 c, e = .returned (.tuple #[.slice (some ⟨h.U, r0, none⟩) p.1.length c, .bool false, .nilIface]) ∧ p.1.length ≤ c ∧ Seg w' h.U r0 p.1 ∧ r0 + p.1.length ≤ r1

theorem takeLine_ne {l : Bs} (h : l ≠ []) : (takeLine l).1 ≠ [] := by
  cases l with
  | nil => exact absurd rfl h
  | cons c r => unfold takeLine; split <;> simp

theorem takeLine_last {l : Bs} (h : (takeLine l).2.2 = false) : ∀ i, i < (takeLine l).1.length → (takeLine l).1.getD i 0 ≠ 10 := by
  have e := takeLine_not_ended h
  rw [e]
  simp only
  intro i hi
  induction l generalizing i with
  | nil => cases hi
  | cons c r ih =>
    unfold takeLine at e h
    by_cases hc : c = 10
    · rw [if_pos hc] at h; cases h
    · rw [if_neg hc] at h e
      cases i with
      | zero => simpa using hc
      | succ j => simpa using ih h (takeLine_not_ended h) j (by simpa using hi)

theorem BlkTP {w : World} {TP : Nat} {a b c : Value} (h : Blk w TP #[a, b, c] 174) : w.cell? ⟨TP, 0, none⟩ = some a ∧ w.cell? ⟨TP, 1, none⟩ = some b ∧ w.cell? ⟨TP, 2, none⟩ = some c ∧ w.frozen? ⟨TP, 2, none⟩ = false := ⟨h.cell 0, h.cell 1, h.cell 2, h.free 2⟩

set_option maxRecDepth 100000 in
set_option maxHeartbeats 1000000 in
theorem skipSpace_any {B : Nat} {g : Nat → Addr} {h : Hs} {w : World} {r : Nat} {rem : Bs} {lb lr : Int} {TP : Nat} {dv bv' : Value} (hs : InS B g h w r rem .nilIface lb lr) (ht : Blk w TP #[.pointer (some ⟨h.BR, 0, none⟩), dv, bv'] 174) (hn : TP ∉ h.all) :
    Calls Tryz.prog 109 #[.pointer (some ⟨TP, 0, none⟩)] w fun e w' => e = .returned (.int .i64 ((rem.length - (dropBl rem).length : Nat) : Int)) ∧ Chg h.all w w' ∧ ∃ r' lb' lr', InS B g h w' r' (dropBl rem) .nilIface lb' lr' := by
  have hl := hs.lt
  have START : Hid (Chg h.all w w ∧ InS B g h w r rem .nilIface lb lr) := ⟨Chg.refl _ _, hs⟩
  have HT := Lib.hid ht; clear ht hs
  have hdl := dropBl_len rem
  obtain ⟨N, hN⟩ : ∃ N, N = rem.length := ⟨_, rfl⟩
  have hN3 : N ≤ 3000 := by omega
  go_enter Tryz.func109, Tryz.ntmps109
  go_wp2
  go_loopw [3] (fun v wr => ∃ (k : Nat) (m : Bs) (r : Nat) (lb lr : Int), v = .int .i64 (k : Int) ∧ Hid (Chg h.all w wr ∧ InS B g h wr r m .nilIface lb lr) ∧ Hid (dropBl m = dropBl rem) ∧ k + m.length = N) (fun v _ => N - (intOf v).toNat)
  case atStart => exact ⟨0, rem, r, lb, lr, rfl, START.out, rfl, by omega⟩
  case round =>
    obtain ⟨k, m, r1, lb1, lr1, rfl, HW, HQ, hk⟩ := hrel
    obtain ⟨t0, t1, t2, _⟩ := BlkTP (HT.out.chg HW.out.1 hn)
    cases m with
    | nil =>
      go_wp2_with fail
      refine (readByte_none HW.out.2).mono ?_
      rintro e w2 ⟨rfl, hc2, r2, lb2, lr2, hin2⟩
      have H2 := Lib.hid (And.intro hc2 hin2); clear hc2 hin2
      go_wp2
      go_ret
      have he : dropBl rem = [] := by rw [← HQ.out]; rfl
      rw [he]
      refine ⟨?_, HW.out.1.trans H2.out.1, r2, lb2, lr2, H2.out.2⟩
      simp only [List.length_nil, Nat.sub_zero, Nat.add_zero] at *
      rw [← hN, ← hk]; rfl
    | cons c m =>
      simp only [List.length_cons] at hk
      go_wp2_with fail
      refine (readByte_some HW.out.2).mono ?_
      rintro e w2 ⟨rfl, hc2, hin2⟩
      have hcw : Chg h.all w w2 := HW.out.1.trans (hc2.mono (by unfold Hs.all; simp))
      obtain ⟨d0, d1, d2, _⟩ := BlkTP (HT.out.chg hcw hn)
      have H2 := Lib.hid (And.intro hcw hin2); clear hcw hin2 hc2
      have hk3 : k ≤ 3000 := by omega
      by_cases h32 : c = 32
      · have hq : dropBl m = dropBl rem := by rw [← HQ.out, dropBl_cons, h32]; rfl
        have hq := Lib.hid hq
        subst h32
        go_wp2
        go_roundw
        case measure => simp [intOf]; omega
        case rel => exact ⟨k + 1, m, r1 + 1, _, _, by simp, H2.out, hq.out, by omega⟩
      · have hn32 : ((c.toNat : Int) == 32) = false := bv_ne 32 _ rfl h32
        by_cases h9 : c = 9
        · have hq : dropBl m = dropBl rem := by rw [← HQ.out, dropBl_cons, h9]; rfl
          have hq := Lib.hid hq
          subst h9
          go_wp2
          go_roundw
          case measure => simp [intOf]; omega
          case rel => exact ⟨k + 1, m, r1 + 1, _, _, by simp, H2.out, hq.out, by omega⟩
        · have hn9 : ((c.toNat : Int) == 9) = false := bv_ne 9 _ rfl h9
          have hq : dropBl rem = c :: m := by rw [← HQ.out, dropBl_cons]; simp [blankB, h32, h9]
          have hq := Lib.hid hq
          clear h32 h9
          have hb32 : ((c.toNat : Int) != 32) = true := by simp only [bne, hn32]; rfl
          have hb9 : ((c.toNat : Int) != 9) = true := by simp only [bne, hn9]; rfl
          go_wp2_with fail
          refine (unreadByte_any H2.out.2).mono ?_
          rintro e w3 ⟨rfl, hc3, hin3⟩
          have H3 := Lib.hid (And.intro hc3 hin3); clear hc3 hin3
          go_wp2
          go_ret
          rw [hq.out]
          refine ⟨?_, H2.out.1.trans (H3.out.1.mono (by unfold Hs.all; simp)), r1, _, _, H3.out.2⟩
          rw [← hN, List.length_cons, ← hk, Nat.add_sub_cancel]; rfl

theorem eql_end {B : Nat} {g : Nat → Addr} {w : World} (hg : Glb B g w) (b : Bool) (k : Nat) (hk : k < 6 ∨ (12 ≤ k ∧ k < 15)) (hne : g 0 ≠ g k) : (binOp .eql 54 (if b then .nilIface else erv (g 0)) (erv (g k))).run Tryz.prog w = .ok (.bool false) w := by
  cases b
  · exact eql_ne (hg.ea 0 (by omega)) (hg.ea k hk) hne
  · obtain ⟨te, ms, i, j, h1, h2, h3, h4, h5, h6⟩ := err_types
    exact run_eql_iface_nil_left (P := Tryz.prog) w 118 _ h2

set_option maxRecDepth 100000 in
set_option maxHeartbeats 1000000 in
theorem readLine_any {B : Nat} {g : Nat → Addr} {h : Hs} {w : World} {r : Nat} {rem : Bs} {lb lr : Int} (hs : InS B g h w r rem .nilIface lb lr) :
    Calls Tryz.prog 106 #[.pointer (some ⟨h.BR, 0, none⟩)] w (RlPost B g h w rem) := by
  have hl := hs.lt
  have hgl := hs.gl
  have hrs := Lib.hid (readSlice_any (.inl ⟨r, lb, lr, hs⟩))
  have hg02 : g 0 ≠ g 2 := hgl.ne.2.2.2
  have htl := takeLine_le rem
  have HG := Lib.hid (And.intro hgl hs); clear hgl hs
  unfold RsPost at hrs
  by_cases he : rem = []
  · subst he
    go_enter Tryz.func106, Tryz.ntmps106
    go_wp2_with fail
    refine hrs.out.mono ?_
    rintro e w2 ⟨r0, c, lb2, lr2, rfl, hch, hc, hseg, hin⟩
    have G2 := hin.gl
    have g2 := (G2.err 2 (by omega)).1
    have hq := eql_end G2 false 2 (by omega) hg02
    have H2 := Lib.hid (And.intro hch (And.intro hseg hin)); clear hch hseg hin G2 hg02
    simp only [takeLine, List.length_nil, Bool.false_eq_true, if_false] at *
    go_wp2
    refine bodyPost_ret (v := .tuple #[.slice none 0 0, .bool false, erv (g 0)]) (by simp [results, Tryz.results106, go_sem]) rfl ?_
    exact ⟨H2.out.1, _, _, _, rfl, H2.out.2.2⟩
  · have hpos := List.length_pos_iff.2 (takeLine_ne he)
    have hlast := @takeLine_last rem
    have htt := @takeLine_true rem
    have hhl : headLineB rem = some (if (takeLine rem).2.2 then chompB (takeLine rem).1 else (takeLine rem).1, (takeLine rem).2.1) := by unfold headLineB; rw [if_neg he]
    have hle : (takeLine rem).1.length ≤ 3000 := by omega
    have HH := Lib.hid hhl; clear hhl
    generalize ht : takeLine rem = t at *
    obtain ⟨x, rest, en⟩ := t
    clear ht he htl
    simp only [] at *
    cases en with
    | false =>
      clear htt
      obtain ⟨n, hn⟩ : ∃ n, x.length = n + 1 := ⟨x.length - 1, by omega⟩
      have hd := hlast rfl n (by omega)
      clear hlast
      go_enter Tryz.func106, Tryz.ntmps106
      go_wp2_with fail
      refine hrs.out.mono ?_
      rintro e w2 ⟨r0, c, lb2, lr2, rfl, hch, hc, hseg, hin⟩
      have hcell := hseg.cell n (by omega)
      generalize x.getD n 0 = d at hcell hd
      have hd10 : ((d.toNat : Int) == 10) = false := bv_ne 10 _ rfl hd
      have G2 := hin.gl
      have g2 := (G2.err 2 (by omega)).1
      have hq := eql_end G2 false 2 (by omega) hg02
      have H2 := Lib.hid (And.intro hch (And.intro hc (And.intro hseg hin))); clear hch hseg hin G2 hg02 hc
      rw [hn] at hle hpos ⊢
      have HN := Lib.hid hn; clear hn
      simp only [Bool.false_eq_true, if_false] at *
      go_wp2
      refine bodyPost_ret (v := .tuple #[.slice (some ⟨h.U, r0, none⟩) (n + 1) c, .bool false, .nilIface]) (by simp [results, Tryz.results106, go_sem]) rfl ?_
      obtain ⟨hch, hc, hseg, hin⟩ := H2.out
      refine ⟨hch, r0 + x.length, lb2, lr2, ?_⟩
      rw [HH.out]
      exact ⟨hin, r0, c, by rw [HN.out], hc, hseg, Nat.le_refl _⟩
    | true =>
      obtain ⟨y, rfl⟩ := htt rfl
      clear htt hlast
      have hyl : y.length ≤ 3000 := by simp at hle; omega
      simp only [if_true, chomp_app] at HH
      generalize hzz : (if y.getLast? = some 13 then y.dropLast else y) = z at HH
      have HZ := Lib.hid hzz; clear hzz
      go_enter Tryz.func106, Tryz.ntmps106
      go_wp2_with fail
      refine hrs.out.mono ?_
      rintro e w2 ⟨r0, c, lb2, lr2, rfl, hch, hc, hseg, hin⟩
      have hcell := hseg.cell y.length (by simp)
      rw [show (y ++ [10] : Bs).getD y.length 0 = 10 from by simp [List.getD]] at hcell
      have hsy : Seg w2 h.U r0 y := by have := hseg.take y.length; rwa [List.take_left] at this
      have G2 := hin.gl
      have g2 := (G2.err 2 (by omega)).1
      have hq : (binOp .eql 54 .nilIface (erv (g 2))).run Tryz.prog w2 = .ok (.bool false) w2 := eql_end G2 true 2 (by omega) hg02
      have hcl : y.length + 1 ≤ c := by simpa using hc
      have H2 := Lib.hid (And.intro hch (And.intro hc (And.intro hsy hin))); clear hch hseg hin G2 hg02 hc hsy
      have s1 : (Instr.slice 22 (.slice (some ⟨h.U, r0, none⟩) (y.length + 1) c) none (some (.int .i64 (y.length : Int))) none).run Tryz.prog w2 = .ok (.slice (some ⟨h.U, r0, none⟩) y.length c) w2 :=
        slice22_h (some ⟨h.U, r0, none⟩) (y.length + 1) c .i64 (y.length : Int) (by omega) (by omega) w2
      simp only [List.length_append, List.length_cons, List.length_nil, Nat.zero_add] at *
      have FIN : ∀ k, z = y.take k → k ≤ y.length → RlPost B g h w rem (.returned (.tuple #[.slice (some ⟨h.U, r0, none⟩) k c, .bool false, .nilIface])) w2 := by
        intro k hk hky
        obtain ⟨hch, hc, hsy, hin⟩ := H2.out
        refine ⟨hch, r0 + (y.length + 1), lb2, lr2, ?_⟩
        rw [HH.out]
        have hzl : z.length = k := by rw [hk]; simp; omega
        exact ⟨hin, r0, c, by rw [hzl], by show z.length ≤ c; omega, by rw [hk]; exact hsy.take k, by show r0 + z.length ≤ _; omega⟩
      have FIN := Lib.hid FIN
      by_cases hy : y = []
      · subst hy
        simp only [List.length_nil, Nat.zero_add, Nat.add_zero] at *
        have s1' : (Instr.slice 22 (.slice (some ⟨h.U, r0, none⟩) 1 c) none (some (.int .i64 0)) none).run Tryz.prog w2 = .ok (.slice (some ⟨h.U, r0, none⟩) 0 c) w2 := slice22_h (some ⟨h.U, r0, none⟩) 1 c .i64 0 (by omega) (by omega) w2
        clear s1
        go_wp2
        refine bodyPost_ret (v := .tuple #[.slice (some ⟨h.U, r0, none⟩) 0 c, .bool false, .nilIface]) (by simp [results, Tryz.results106, go_sem]) rfl ?_
        exact FIN.out 0 (by rw [← HZ.out]; rfl) (Nat.zero_le _)
      · have hpos := List.length_pos_iff.2 hy
        have hlast := getLast_getD y hpos
        have hcell2 := H2.out.2.2.1.cell (y.length - 1) (by omega)
        obtain ⟨n, hn⟩ : ∃ n, y.length = n + 1 := ⟨y.length - 1, by omega⟩
        rw [hn] at hcell2 hcell s1 hyl hcl hlast ⊢
        simp only [Nat.add_sub_cancel] at hcell2 hlast
        generalize y.getD n 0 = d at *
        have HL := Lib.hid hlast; clear hlast hpos hy
        have HN := Lib.hid hn; clear hn
        by_cases hd : d = 13
        · have hd' := bv13' hd
          have HD := Lib.hid hd; clear hd
          have s2 : (Instr.slice 22 (.slice (some ⟨h.U, r0, none⟩) (n + 1 + 1) c) none (some (.int .i64 (n : Int))) none).run Tryz.prog w2 = .ok (.slice (some ⟨h.U, r0, none⟩) n c) w2 :=
            slice22_h (some ⟨h.U, r0, none⟩) (n + 1 + 1) c .i64 (n : Int) (by omega) (by omega) w2
          go_wp2
          refine bodyPost_ret (v := .tuple #[.slice (some ⟨h.U, r0, none⟩) n c, .bool false, .nilIface]) (by simp [results, Tryz.results106, go_sem]) rfl ?_
          exact FIN.out n (by rw [← HZ.out, HL.out, HD.out, if_pos rfl, List.dropLast_eq_take, HN.out]; rfl) (by rw [HN.out]; omega)
        · have hd' := bv13 hd
          have HD := Lib.hid hd; clear hd
          go_wp2
          refine bodyPost_ret (v := .tuple #[.slice (some ⟨h.U, r0, none⟩) (n + 1) c, .bool false, .nilIface]) (by simp [results, Tryz.results106, go_sem]) rfl ?_
          exact FIN.out (n + 1) (by rw [← HZ.out, HL.out, if_neg (fun e => HD.out (by simpa using e)), ← HN.out, List.take_length]) (by rw [HN.out]; omega)
end Go.Proofs.YtekndndhgkdggaaGreatDoor

namespace Go.Proofs.YtekndndhgkdggaaGreatDoor
open Go.RowKit

set_option maxRecDepth 100000 in
set_option maxHeartbeats 1000000 in
theorem peek_in {B : Nat} {g : Nat → Addr} {h : Hs} {w : World} {r : Nat} {rem : Bs} {lb lr : Int} (hs : InS B g h w r rem .nilIface lb lr) (n : Nat) (hn : n ≤ rem.length) :
    Calls Tryz.prog 98 #[.pointer (some ⟨h.BR, 0, none⟩), .int .i64 (n : Int)] w fun e w' =>
      e = .returned (.tuple #[.slice (some ⟨h.U, r, none⟩) n (4096 - r), .nilIface]) ∧ Chg [h.BR] w w' ∧ InS B g h w' r rem .nilIface (-1) (-1) := by
  have hl := hs.lt
  obtain ⟨x, hx⟩ : ∃ x, x = r + rem.length := ⟨_, rfl⟩
  have hb := hs.br
  rw [← hx] at hb hl
  obtain ⟨c0, c1, c2, c3, c4, c5, c6, f2, f3, f4, f5, f6⟩ := br_cells hb
  obtain ⟨L, hL⟩ : ∃ L, L = rem.length := ⟨_, rfl⟩
  obtain ⟨z, hz⟩ : ∃ z, z = r + n := ⟨_, rfl⟩
  have hwr : IntKind.i64.wrap ((x : Int) - (r : Int)) = (L : Int) := by rw [IntWalk.i64_in _ (by omega)]; omega
  have hwz : IntKind.i64.wrap ((r : Int) + (n : Int)) = (z : Int) := by rw [IntWalk.i64_in _ (by omega)]; omega
  have hlt : decide ((L : Int) < (n : Int)) = false := by simp; omega
  have hltN : decide (L < n) = false := by simp; omega
  have hgt : decide ((n : Int) > 4096) = false := by simp; omega
  have hn0 : decide ((n : Int) < 0) = false := by simp
  have sl := fun wy => slice22_lh (some ⟨h.U, 0, none⟩) 4096 4096 .i64 .i64 (r : Int) (z : Int) (by omega) (by omega) (by omega) wy
  simp only [Int.toNat_natCast] at sl
  rw [subA_some _ _ _ _ (by omega), Nat.zero_add, show z - r = n from by omega] at sl
  have hc : ∀ k, Chg [h.BR] w (((w.setCell ⟨h.BR, 5, none⟩ (.int .i64 (-1))).setCell ⟨h.BR, 6, none⟩ (.int .i64 (-1))).drewN k) := fun k => (((Chg.refl _ w).setCell (.inl (by simp)) _).setCell (.inl (by simp)) _).drewN k
  have hin : ∀ k, InS B g h (((w.setCell ⟨h.BR, 5, none⟩ (.int .i64 (-1))).setCell ⟨h.BR, 6, none⟩ (.int .i64 (-1))).drewN k) r rem .nilIface (-1) (-1) := fun k =>
    hs.rep (hc k) (by rw [← hx]; exact ((hb.set 5 (.int .i64 (-1))).set 6 (.int .i64 (-1))).drewN k) rfl (fun i hi => by rw [show i + r - r = i from by omega]) (Nat.le_refl _)
  have H := Lib.hid (And.intro hc hin); clear hs hb hc hin
  have HX := Lib.hid (And.intro hx (And.intro hL (And.intro hz (And.intro hn hl)))); clear hx hL hz hn hl
  go_enter Tryz.func98, Tryz.ntmps98
  go_wp2
  refine wp_loop_rounds 1 ?_; rw [rounds_succ]
  go_wp2
  go_quiet (fail)
  go_wp2
  go_quiet (fail)
  go_wp2
  go_quiet (fail)
  go_wp2
  go_ret2
  exact ⟨rfl, (H.out.1 _).drewN _, (H.out.2 _).draw ((Chg.refl [] _).drewN _) (by simp)⟩

set_option maxRecDepth 100000 in
set_option maxHeartbeats 1000000 in
theorem peek_out {B : Nat} {g : Nat → Addr} {h : Hs} {w : World} {r : Nat} {rem : Bs} {lb lr : Int} (hs : InS B g h w r rem .nilIface lb lr) (n : Nat) (hn : rem.length < n) (hn4 : n ≤ 4096) :
    Calls Tryz.prog 98 #[.pointer (some ⟨h.BR, 0, none⟩), .int .i64 (n : Int)] w fun e w' =>
      e = .returned (.tuple #[.slice (some ⟨h.U, 0, none⟩) rem.length 4096, erv (g 0)]) ∧ Chg h.all w w' ∧ InS B g h w' 0 rem .nilIface (-1) (-1) := by
  have hl := hs.lt
  obtain ⟨x, hx⟩ : ∃ x, x = r + rem.length := ⟨_, rfl⟩
  have hb := hs.br
  rw [← hx] at hb hl
  obtain ⟨c0, c1, c2, c3, c4, c5, c6, f2, f3, f4, f5, f6⟩ := br_cells hb
  obtain ⟨L, hL⟩ : ∃ L, L = rem.length := ⟨_, rfl⟩
  rw [← hL] at hn ⊢
  have hwr : IntKind.i64.wrap ((x : Int) - (r : Int)) = (L : Int) := by rw [IntWalk.i64_in _ (by omega)]; omega
  have hwr2 : IntKind.i64.wrap ((L : Int) - ((0 : Nat) : Int)) = (L : Int) := by rw [IntWalk.i64_in _ (by omega)]; omega
  have hwr3 : IntKind.i64.wrap (L : Int) = (L : Int) := by rw [IntWalk.i64_in _ (by omega)]
  have hlt : decide ((L : Int) < (n : Int)) = true := by simp; omega
  have hltN : decide (L < n) = true := by simp; omega
  have hltP : L < n := hn
  have hlt4N : decide (L < 4096) = true := by simp; omega
  have hlt4 : decide ((L : Int) < 4096) = true := by simp; omega
  have hgt : decide ((n : Int) > 4096) = false := by simp; omega
  have hn0 : decide ((n : Int) < 0) = false := by simp
  have sl := fun wy => slice22_lh (some ⟨h.U, 0, none⟩) 4096 4096 .i64 .i64 (0 : Int) (L : Int) (by omega) (by omega) (by omega) wy
  simp only [Int.toNat_natCast, Int.toNat_zero, subA_zero, Nat.sub_zero] at sl
  have hc : ∀ k, Chg [h.BR] w (((w.setCell ⟨h.BR, 5, none⟩ (.int .i64 (-1))).setCell ⟨h.BR, 6, none⟩ (.int .i64 (-1))).drewN k) := fun k => (((Chg.refl _ w).setCell (.inl (by simp)) _).setCell (.inl (by simp)) _).drewN k
  have hin : ∀ k, InS B g h (((w.setCell ⟨h.BR, 5, none⟩ (.int .i64 (-1))).setCell ⟨h.BR, 6, none⟩ (.int .i64 (-1))).drewN k) r rem .nilIface (-1) (-1) := fun k =>
    hs.rep (hc k) (by rw [← hx]; exact ((hb.set 5 (.int .i64 (-1))).set 6 (.int .i64 (-1))).drewN k) rfl (fun i hi => by rw [show i + r - r = i from by omega]) (Nat.le_refl _)
  have H := Lib.hid (And.intro hc hin); clear hs hb hc hin
  have HX := Lib.hid (And.intro hx (And.intro hL (And.intro hn hl))); clear hx hL hn hl
  go_enter Tryz.func98, Tryz.ntmps98
  go_wp2
  refine wp_loop_rounds 2 ?_; rw [rounds_succ]
  go_wp2
  go_quiet (fail)
  go_wp2_with fail
  refine (fill_eof (H.out.2 _)).mono ?_
  rintro e w2 ⟨rfl, hc2, hin2⟩
  have hb2 := hin2.br
  rw [← HX.out.2.1, Nat.zero_add] at hb2
  obtain ⟨d0, d1, d2, d3, d4, d5, d6, _, _, _, _, _⟩ := br_cells hb2
  have H2 := Lib.hid (And.intro hc2 (And.intro hin2 (H.out.1 nq))); clear hc2 hin2 hb2
  go_wp2
  rw [rounds_succ]
  go_wp2
  go_quiet (fail)
  go_wp2
  go_quiet (fail)
  go_wp2_with fail
  refine (readErr_any (H2.out.2.1.draw ((Chg.refl [] w2).drewN _) (by simp))).mono ?_
  rintro e w3 ⟨rfl, hc3, hin3⟩
  have hb3 := hin3.br
  rw [← HX.out.2.1, Nat.zero_add] at hb3
  obtain ⟨e0, e1, e2, e3, e4, e5, e6, _, _, _, _, _⟩ := br_cells hb3
  have H3 := Lib.hid (And.intro hc3 hin3); clear hc3 hin3 hb3
  go_wp2
  go_quiet (fail)
  go_wp2
  go_ret2
  obtain ⟨hc3, hin3⟩ := H3.out
  exact ⟨rfl, ((((H2.out.2.2.mono (by unfold Hs.all; simp)).trans (H2.out.1.mono (by unfold Hs.all; simp))).drewN _).trans (hc3.mono (by unfold Hs.all; simp))).drewN _, hin3.draw ((Chg.refl [] w3).drewN _) (by simp)⟩
end Go.Proofs.YtekndndhgkdggaaGreatDoor

namespace Go.Proofs.YtekndndhgkdggaaGreatDoor
open Go.RowKit

/-- textproto's reader over the buffered one -/
def tpc (h : Hs) (b : Value) : Array Value := #[.pointer (some ⟨h.BR, 0, none⟩), .pointer none, b]

theorem tp_cells {w : World} {TP : Nat} {h : Hs} {b : Value} (ht : Blk w TP (tpc h b) 174) : w.cell? ⟨TP, 0, none⟩ = some (.pointer (some ⟨h.BR, 0, none⟩)) ∧ w.cell? ⟨TP, 1, none⟩ = some (.pointer none) ∧ w.cell? ⟨TP, 2, none⟩ = some b ∧ w.frozen? ⟨TP, 2, none⟩ = false := ⟨ht.cell 0, ht.cell 1, ht.cell 2, ht.free 2⟩

set_option maxRecDepth 100000 in
set_option maxHeartbeats 400000 in
theorem closeDot_any {w : World} {TP : Nat} {h : Hs} {b : Value} (ht : Blk w TP (tpc h b) 174) :
    Calls Tryz.prog 105 #[.pointer (some ⟨TP, 0, none⟩)] w fun e w' => e = .returned (.tuple #[]) ∧ w' = w := by
  obtain ⟨t0, t1, t2, f2⟩ := tp_cells ht
  clear ht
  go_enter Tryz.func105, Tryz.ntmps105
  go_wp2
  go_returns
  exact ⟨rfl, rfl⟩

/-- what readLineSlice leaves: under a limit -/
def RlsPost (B : Nat) (g : Nat → Addr) (h : Hs) (w : World) (rem : Bs) (lim : Int) (e : Ending) (w' : World) : Prop :=
  Chg h.all w w' ∧ ∃ r1 lb lr,
    match headLineB rem with
    | none => e = .returned (.tuple #[.slice none 0 0, erv (g 0)]) ∧ InS B g h w' r1 [] .nilIface lb lr
    | some p => InS B g h w' r1 p.2 .nilIface lb lr ∧
      ((0 ≤ lim ∧ lim < p.1.length ∧ e = .returned (.tuple #[.slice none 0 0, erv (g 12)])) ∨
       ((lim < 0 ∨ (p.1.length : Int) ≤ lim) ∧ ∃ r0 c, e = .returned (.tuple #[.slice (some ⟨h.U, r0, none⟩) p.1.length c, .nilIface]) ∧ p.1.length ≤ c ∧ Seg w' h.U r0 p.1 ∧ r0 + p.1.length ≤ r1))

theorem headLine_le {rem : Bs} {p : Bs × Bs} (h : headLineB rem = some p) : p.1.length ≤ rem.length := by
  unfold headLineB at h
  split at h
  · cases h
  · cases h
    have h1 := takeLine_le rem
    simp only
    split
    · unfold chompB; split
      · split <;> simp <;> omega
      · omega
    · omega

set_option maxRecDepth 100000 in
set_option maxHeartbeats 1000000 in
theorem readLineSlice_any {B : Nat} {g : Nat → Addr} {h : Hs} {w : World} {r : Nat} {rem : Bs} {lb lr : Int} {TP : Nat} {b : Value} (lim : Int) (hs : InS B g h w r rem .nilIface lb lr) (ht : Blk w TP (tpc h b) 174) (hn : TP ∉ h.all) :
    Calls Tryz.prog 99 #[.pointer (some ⟨TP, 0, none⟩), .int .i64 lim] w (RlsPost B g h w rem lim) := by
  have hl := hs.lt
  have hcd := closeDot_any ht
  obtain ⟨t0, t1, t2, f2⟩ := tp_cells ht
  have hrl := Lib.hid (readLine_any hs); clear hs ht
  have hhl := fun p => @headLine_le rem p
  have hnil : ∀ W, (binOp .eql 22 (.slice none 0 0) (.slice none 0 0)).run Tryz.prog W = .ok (.bool true) W := fun W => by kernel_rfl
  unfold RlPost at hrl
  obtain ⟨o, ho⟩ : ∃ o, o = headLineB rem := ⟨_, rfl⟩
  rw [← ho] at hrl hhl
  have HO := Lib.hid ho; clear ho
  go_enter Tryz.func99, Tryz.ntmps99
  go_wp2_with fail
  refine hcd.mono ?_
  rintro e w1 ⟨rfl, rfl⟩
  go_wp2
  refine wp_loop_rounds 1 ?_; rw [rounds_succ]
  go_wp2_with fail
  refine hrl.out.mono ?_
  rintro e w2 ⟨hch, r1, lb2, lr2, hm⟩
  cases o with
  | none =>
    obtain ⟨rfl, hin⟩ := hm
    have H2 := Lib.hid (And.intro hch hin); clear hch hin
    go_wp2
    go_ret2
    refine ⟨H2.out.1, r1, lb2, lr2, ?_⟩
    rw [← HO.out]; exact ⟨rfl, H2.out.2⟩
  | some p =>
    obtain ⟨hin, r0, c, rfl, hc, hseg, hr01⟩ := hm
    have hpl := hhl p rfl
    clear hhl
    have g12 := (hin.gl.err 12 (by omega)).1
    have H2 := Lib.hid (And.intro hch (And.intro hin (And.intro hc (And.intro hseg hr01)))); clear hch hin hc hseg hr01
    obtain ⟨p1, p2⟩ := p
    simp only [] at *
    by_cases h0 : 0 ≤ lim
    · have hge : decide (lim ≥ 0) = true := by simp; omega
      by_cases h1 : lim < p1.length
      · have hgt : decide ((p1.length : Int) > lim) = true := by simp; omega
        have hwr : IntKind.i64.wrap (((0 : Nat) : Int) + (p1.length : Int)) = (p1.length : Int) := by rw [IntWalk.i64_in _ (by omega)]; omega
        have hwr2 : IntKind.i64.wrap (p1.length : Int) = (p1.length : Int) := IntWalk.i64_in _ (by omega)
        go_wp2
        go_quiet (fail)
        go_wp2
        go_ret2
        refine ⟨H2.out.1.drewN _, r1, lb2, lr2, ?_⟩
        rw [← HO.out]; exact ⟨H2.out.2.1.draw ((Chg.refl [] _).drewN _) (by simp), .inl ⟨h0, h1, rfl⟩⟩
      · have hgt : decide ((p1.length : Int) > lim) = false := by simp; omega
        have hwr : IntKind.i64.wrap (((0 : Nat) : Int) + (p1.length : Int)) = (p1.length : Int) := by rw [IntWalk.i64_in _ (by omega)]; omega
        have hwr2 : IntKind.i64.wrap (p1.length : Int) = (p1.length : Int) := IntWalk.i64_in _ (by omega)
        go_wp2
        go_ret2
        refine ⟨H2.out.1, r1, lb2, lr2, ?_⟩
        rw [← HO.out]; exact ⟨H2.out.2.1, .inr ⟨.inr (by show (p1.length : Int) ≤ lim; omega), r0, c, rfl, H2.out.2.2⟩⟩
    · have hge : decide (lim ≥ 0) = false := by simp; omega
      go_wp2
      go_ret2
      refine ⟨H2.out.1, r1, lb2, lr2, ?_⟩
      rw [← HO.out]; exact ⟨H2.out.2.1, .inr ⟨.inl (by omega), r0, c, rfl, H2.out.2.2⟩⟩
end Go.Proofs.YtekndndhgkdggaaGreatDoor

namespace Go.Proofs.YtekndndhgkdggaaGreatDoor
open Go.RowKit

/-- A slice of bytes within lo .. hi of block b. -/
def LB (b lo hi : Nat) (w : World) (v : Value) (l : Bs) : Prop :=
  ∃ o c, v = .slice (some ⟨b, o, none⟩) l.length c ∧ l.length ≤ c ∧ Seg w b o l ∧ lo ≤ o ∧ o + l.length ≤ hi

theorem LB.chg {S : List Nat} {b lo hi : Nat} {w w' : World} {v : Value} {l : Bs} (h : LB b lo hi w v l) (hc : Chg S w w') (hn : b ∉ S) : LB b lo hi w' v l := by
  obtain ⟨o, c, hv, hl, hs, h1, h2⟩ := h
  exact ⟨o, c, hv, hl, hs.chg hc hn, h1, h2⟩
theorem LB.bs {S : List Nat} {b lo hi : Nat} {w : World} {v : Value} {l : Bs} (h : LB b lo hi w v l) (hn : b ∉ S) : BS S w v l := by
  obtain ⟨o, c, hv, hl, hs, _⟩ := h
  exact ⟨_, c, hv, hl, .inr ⟨b, o, rfl, hn, hs⟩⟩
theorem LB.drop {b lo hi : Nat} {w : World} {o n c : Nat} {l : Bs} (h : LB b lo hi w (.slice (some ⟨b, o, none⟩) n c) l) (k : Nat) (hk : k ≤ n) : LB b lo hi w (.slice (subA (some ⟨b, o, none⟩) c k) (n - k) (c - k)) (l.drop k) := by
  obtain ⟨o', c', hv, hl, hs, h1, h2⟩ := h
  cases hv
  by_cases hck : k < c
  · exact ⟨o + k, c - k, by rw [subA_some _ _ _ _ hck, List.length_drop], by simp; omega, hs.drop k, by omega, by simp; omega⟩
  · have e : l.drop k = [] := List.drop_eq_nil_of_le (by omega)
    refine ⟨o, c - k, ?_, by rw [e]; simp, by rw [e]; exact .nil hs.lt, h1, by rw [e]; simp; omega⟩
    rw [e]; unfold subA; rw [if_pos (by omega)]; simp; omega
theorem LB.take {b lo hi : Nat} {w : World} {o n c : Nat} {l : Bs} (h : LB b lo hi w (.slice (some ⟨b, o, none⟩) n c) l) (k : Nat) (hk : k ≤ n) : LB b lo hi w (.slice (some ⟨b, o, none⟩) k c) (l.take k) := by
  obtain ⟨o', c', hv, hl, hs, h1, h2⟩ := h
  cases hv
  have e : (l.take k).length = k := by simp; omega
  exact ⟨o, c, by rw [e], by omega, hs.take k, h1, by rw [e]; omega⟩

theorem drop_at {l : Bs} {i : Nat} (h : i < l.length) : l.drop i = l.getD i 0 :: l.drop (i + 1) := by
  rw [List.drop_eq_getElem_cons h]; simp [List.getD, List.getElem?_eq_getElem h]
theorem take_at {l : Bs} {i : Nat} (h : i < l.length) : l.take (i + 1) = l.take i ++ [l.getD i 0] := by
  rw [List.take_add_one]; simp [List.getD, List.getElem?_eq_getElem h]

set_option maxRecDepth 100000 in
set_option maxHeartbeats 1000000 in
theorem trim_at {b lo hi : Nat} {w : World} {v : Value} {l : Bs} (h : LB b lo hi w v l) (hl : l.length ≤ 100000) :
    Calls Tryz.prog 108 #[v] w fun e w' => (∃ u, e = .returned u ∧ LB b lo hi w u (trimB l)) ∧ w = w' := by
  obtain ⟨o, c, rfl, hlc, hseg, _, _⟩ := id h
  have H := Lib.hid h; clear h
  obtain ⟨N, hN⟩ : ∃ N, N = l.length := ⟨_, rfl⟩
  rw [← hN] at H ⊢ hlc
  have HN := Lib.hid hN
  have hN1 : N ≤ 100000 := by omega
  have hcell : Hid (∀ i, i < N → w.cell? ⟨b, o + i, none⟩ = some (bv (l.getD i 0))) := fun i hi => hseg.cell i (by omega)
  clear hseg hN hl
  unfold trimB
  obtain ⟨m, hmd⟩ : ∃ m, m = dropBl l := ⟨_, rfl⟩
  rw [← hmd]
  have HMD := Lib.hid hmd; clear hmd
  go_enter Tryz.func108, Tryz.ntmps108
  go_upto_block 0 with (fail)
  go_cut [3] (fun v3 wz => ∃ i : Nat, v3 = .int .i64 (i : Int) ∧ i ≤ N ∧ Hid (l.drop i = dropBl l) ∧ wz = w)
  case first =>
    go_wp2
    go_loop [3] (fun v => ∃ i : Nat, v = .int .i64 (i : Int) ∧ i ≤ N ∧ Hid (dropBl (l.drop i) = dropBl l)) (fun v => N - (intOf v).toNat)
    case atStart => exact ⟨0, rfl, Nat.zero_le _, rfl⟩
    case round =>
      obtain ⟨i, rfl, hi, HQ⟩ := hrel
      by_cases hiN : i < N
      · have hci := hcell.out i hiN
        have hdr := drop_at (l := l) (i := i) (by rw [← HN.out]; exact hiN)
        have hlt : decide ((i : Int) < (N : Int)) = true := by simp; omega
        have hltN : decide (i < N) = true := by simp; omega
        generalize l.getD i 0 = d at hci hdr
        have HD := Lib.hid hdr; clear hdr
        by_cases h32 : d = 32
        · have hq : dropBl (l.drop (i + 1)) = dropBl l := by rw [← HQ.out, HD.out, dropBl_cons, h32]; rfl
          have hq := Lib.hid hq
          subst h32
          go_wp2
          go_round
          case measure => simp [intOf]; omega
          case rel => exact ⟨i + 1, by simp, by omega, hq⟩
        · have hn32 : ((d.toNat : Int) == 32) = false := bv_ne 32 _ rfl h32
          by_cases h9 : d = 9
          · have hq : dropBl (l.drop (i + 1)) = dropBl l := by rw [← HQ.out, HD.out, dropBl_cons, h9]; rfl
            have hq := Lib.hid hq
            subst h9
            go_wp2
            go_round
            case measure => simp [intOf]; omega
            case rel => exact ⟨i + 1, by simp, by omega, hq⟩
          · have hn9 : ((d.toNat : Int) == 9) = false := bv_ne 9 _ rfl h9
            have hq : l.drop i = dropBl l := by rw [← HQ.out, HD.out, dropBl_cons]; simp [blankB, h32, h9]
            have hq := Lib.hid hq
            clear h32 h9
            go_wp2
            go_meet
            exact ⟨i, rfl, hi, hq, rfl⟩
      · have hiN2 : i = N := by omega
        have hq : l.drop i = dropBl l := by
          have h0 : l.drop i = [] := List.drop_eq_nil_of_le (by rw [hiN2, HN.out]; exact Nat.le_refl _)
          rw [← HQ.out, h0]; rfl
        have hq := Lib.hid hq
        subst hiN2
        clear hiN
        have hlt : decide ((i : Int) < (i : Int)) = false := by simp
        go_wp2
        go_meet
        exact ⟨i, rfl, Nat.le_refl _, hq, rfl⟩
  case rest =>
    obtain ⟨i, rfl, hiN, HQ, rfl⟩ := hcut
    have hm := H.out.drop i hiN
    rw [HQ.out, ← HMD.out] at hm
    have hml := congrArg List.length HQ.out
    rw [List.length_drop, ← HN.out, ← HMD.out] at hml
    obtain ⟨o2, c2, hv2, hc2, hseg2, _⟩ := id hm
    have sl := fun wy => slice22_l (some ⟨b, o, none⟩) N c .i64 (i : Int) (by omega) (by omega) wy
    simp only [Int.toNat_natCast] at sl
    rw [hv2] at hm sl
    have HM := Lib.hid hm; clear hm hv2
    have hcell2 : Hid (∀ j, j < m.length → wc.cell? ⟨b, o2 + j, none⟩ = some (bv (m.getD j 0))) := fun j hj => hseg2.cell j hj
    clear hseg2 hcell
    obtain ⟨M, hM⟩ : ∃ M, M = m.length := ⟨_, rfl⟩
    rw [← hM] at hc2 HM sl hcell2 hml
    have HMM := Lib.hid hM; clear hM
    have hM1 : M ≤ 100000 := by omega
    have hml := Lib.hid hml
    have fin : ∀ k, k ≤ M → m.take k = dropEnd m → LB b lo hi wc (.slice (some ⟨b, o2, none⟩) k c2) (dropEnd m) := fun k hk h2 => by rw [← h2]; exact HM.out.take k hk
    have FIN := Lib.hid fin; clear fin
    go_wp2
    go_loop [4] (fun v => ∃ k : Nat, (v = match k with | 0 => .int .i64 (-1) | j + 1 => .int .i64 (j : Int)) ∧ k ≤ M ∧ Hid (dropEnd (m.take k) = dropEnd m)) (fun v => (intOf v + 1).toNat)
    case atStart =>
      refine ⟨M, ?_, Nat.le_refl _, by unfold Hid; rw [HMM.out, List.take_length]⟩
      cases M with
      | zero => rfl
      | succ j => simp [go_sem]
    case round =>
      obtain ⟨k, hv, hk, HK⟩ := hrel
      cases k with
      | zero =>
        subst hv
        go_wp2
        go_ret
        exact ⟨⟨_, rfl, FIN.out 0 (Nat.zero_le _) (by rw [← HK.out]; rfl)⟩, rfl⟩
      | succ j =>
        simp only [] at hv
        subst hv
        have hcj := hcell2.out j (by omega)
        have htk := take_at (l := m) (i := j) (by rw [← HMM.out]; omega)
        generalize m.getD j 0 = d at hcj htk
        have hK := HK.out
        rw [htk, dropEnd_snoc] at hK
        have hjM : j < M := by omega
        have hs3 := fun wy => slice22_h (some ⟨b, o2, none⟩) M c2 .i64 ((j + 1 : Nat) : Int) (by omega) (by omega) wy
        simp only [Int.toNat_natCast] at hs3
        have hfin : blankB d = false → m.take (j + 1) = dropEnd m := fun hb => by rw [htk, ← hK, hb]; rfl
        have hq1 : blankB d = true → dropEnd (m.take j) = dropEnd m := fun hb => by rw [← hK, hb]; rfl
        have HF := Lib.hid (And.intro hfin hq1); clear hfin hq1 hK htk
        have rel1 : dropEnd (m.take j) = dropEnd m → ∃ k : Nat, (Value.int IntKind.i64 ((j : Int) - 1) = match k with | 0 => .int .i64 (-1) | j + 1 => .int .i64 (j : Int)) ∧ k ≤ M ∧ Hid (dropEnd (m.take k) = dropEnd m) := fun hq => by
          refine ⟨j, ?_, by omega, hq⟩
          cases j with
          | zero => rfl
          | succ j => simp
        have REL := Lib.hid rel1; clear rel1
        have hmes : (intOf (.int .i64 ((j : Int) - 1)) + 1).toNat < (intOf (.int .i64 (j : Int)) + 1).toNat := by simp [intOf]
        have MES := Lib.hid hmes; clear hmes
        by_cases h32 : d = 32
        · have hq := REL.out (HF.out.2 (by rw [h32]; rfl))
          have hq := Lib.hid hq
          subst h32
          go_wp2
          go_round
          case measure => exact MES.out
          case rel => exact hq.out
        · have hn32 : ((d.toNat : Int) == 32) = false := bv_ne 32 _ rfl h32
          by_cases h9 : d = 9
          · have hq := REL.out (HF.out.2 (by rw [h9]; rfl))
            have hq := Lib.hid hq
            subst h9
            go_wp2
            go_round
            case measure => exact MES.out
            case rel => exact hq.out
          · have hn9 : ((d.toNat : Int) == 9) = false := bv_ne 9 _ rfl h9
            have hq := Lib.hid (HF.out.1 (by simp [blankB, h32, h9]))
            clear h32 h9
            go_wp2
            go_ret
            exact ⟨⟨_, rfl, FIN.out (j + 1) (by omega) hq.out⟩, rfl⟩
end Go.Proofs.YtekndndhgkdggaaGreatDoor

namespace Go.Proofs.YtekndndhgkdggaaGreatDoor
open Go.RowKit

theorem byte_all (p : UInt8 → Bool) (h : ((List.range 256).all fun i => p (UInt8.ofNat i)) = true) (c : UInt8) : p c = true := by
  have := List.all_eq_true.1 h c.toNat (by simp; exact c.toNat_lt)
  simpa using this

def fldB (n d : Nat) : Bool := bits BinOp.or IntKind.u64 (bits BinOp.and IntKind.u64 (IntKind.u64.wrap (2 ^ min n 64)) 288068722172624896) (bits BinOp.and IntKind.u64 (IntKind.u64.wrap (2 ^ min d 64)) 6341068274398134270) != 0
def vldB (n d : Nat) : Bool := bits BinOp.or IntKind.u64 (bits BinOp.andNot IntKind.u64 (IntKind.u64.wrap (2 ^ min n 64)) 18446744069414584832) (bits BinOp.andNot IntKind.u64 (IntKind.u64.wrap (2 ^ min d 64)) 9223372036854775807) == 0
theorem fldB_eq (c : UInt8) : fldB c.toNat ((c.toNat + 192) % 256) = tokenB c := eq_of_beq (byte_all (fun c => fldB c.toNat ((c.toNat + 192) % 256) == tokenB c) (by kernel_rfl) c)
theorem vldB_eq (c : UInt8) : vldB c.toNat ((c.toNat + 192) % 256) = valuedB c := eq_of_beq (byte_all (fun c => vldB c.toNat ((c.toNat + 192) % 256) == valuedB c) (by kernel_rfl) c)

set_option maxRecDepth 100000 in
set_option maxHeartbeats 400000 in
theorem validField_any (c : UInt8) (w : World) :
    Calls Tryz.prog 93 #[bv c] w fun e w' => e = .returned (.bool (tokenB c)) ∧ w' = w := by
  obtain ⟨d, hd⟩ : ∃ d : Nat, d = (c.toNat + 192) % 256 := ⟨_, rfl⟩
  have h1 : ((c.toNat : Int) - 64) % 256 = (d : Int) := by omega
  have HD := Lib.hid hd; clear hd
  go_enter Tryz.func93, Tryz.ntmps93
  go_wp2
  go_ret
  refine ⟨?_, rfl⟩
  rw [← fldB_eq, ← HD.out]; rfl

set_option maxRecDepth 100000 in
set_option maxHeartbeats 400000 in
theorem validValue_any (c : UInt8) (w : World) :
    Calls Tryz.prog 103 #[bv c] w fun e w' => e = .returned (.bool (valuedB c)) ∧ w' = w := by
  obtain ⟨d, hd⟩ : ∃ d : Nat, d = (c.toNat + 192) % 256 := ⟨_, rfl⟩
  have h1 : ((c.toNat : Int) - 64) % 256 = (d : Int) := by omega
  have HD := Lib.hid hd; clear hd
  go_enter Tryz.func103, Tryz.ntmps103
  go_wp2
  go_ret
  refine ⟨?_, rfl⟩
  rw [← vldB_eq, ← HD.out]; rfl

def LetPost (c : UInt8) (w : World) (e : Ending) (w' : World) : Prop := (∃ b, e = .returned (.bool b) ∧ (b = true → c ≠ 32 ∧ c ≠ 9)) ∧ w' = w

set_option maxRecDepth 100000 in
set_option maxHeartbeats 400000 in
theorem letter_any (c : UInt8) (w : World) : Calls Tryz.prog 107 #[bv c] w (LetPost c w) := by
  by_cases hL : bits BinOp.or IntKind.u8 (c.toNat : Int) 32 < 97
  · go_enter Tryz.func107, Tryz.ntmps107
    go_wp2
    go_ret
    exact ⟨⟨_, rfl, fun h => by cases h⟩, rfl⟩
  · have hL' : 97 ≤ bits BinOp.or IntKind.u8 (c.toNat : Int) 32 := by omega
    have HL := Lib.hid hL
    have hne : c ≠ 32 ∧ c ≠ 9 := by
      refine ⟨fun h => ?_, fun h => ?_⟩
      · subst h; revert hL; decide
      · subst h; revert hL; decide
    have HN := Lib.hid hne; clear hne hL
    go_enter Tryz.func107, Tryz.ntmps107
    go_wp2
    go_ret
    exact ⟨⟨_, rfl, fun _ => HN.out⟩, rfl⟩

/-- a message of textproto's own -/
abbrev perr (s : ByteArray) : Value := .iface 197 (.string s)

def ColonPost (w : World) (l : Bs) (e : Ending) (w' : World) : Prop := w = w' ∧ if l.contains 58 then e = .returned .nilIface else ∃ s, e = .returned (perr s)

theorem idx_contains (c : UInt8) (l : Bs) : (idxB c l < 0) = (l.contains c = false) := by
  induction l with
  | nil => simp [idxB]
  | cons d l ih =>
    have := idxB_ge c l
    unfold idxB
    by_cases hd : d = c
    · subst hd; simp
    · have hcd : (c == d) = false := by simpa using fun e => hd e.symm
      rw [if_neg hd, List.contains_cons, hcd, Bool.false_or, ← ih]
      split <;> simp <;> omega

set_option maxRecDepth 100000 in
set_option maxHeartbeats 400000 in
theorem colon_any {S : List Nat} {w : World} {v : Value} {l : Bs} (h : BS S w v l) : Calls Tryz.prog 101 #[v] w (ColonPost w l) := by
  have hi := indexByte_any 58 h
  have hc := idx_contains 58 l
  generalize idxB 58 l = K at *
  have HC := Lib.hid hc; clear hc h
  by_cases hK : K < 0
  · have hd : decide (K < 0) = true := by simpa using hK
    have hcn : l.contains 58 = false := by rw [← HC.out]; exact hK
    have HN := Lib.hid hcn; clear hcn
    go_enter Tryz.func101, Tryz.ntmps101
    go_wp2_with fail
    refine hi.mono ?_
    rintro e w' ⟨rfl, rfl⟩
    go_wp2
    go_ret
    refine ⟨rfl, ?_⟩
    rw [HN.out]
    exact ⟨_, rfl⟩
  · have hd : decide (K < 0) = false := by simpa using hK
    have hcn : l.contains 58 = true := by
      cases hx : l.contains 58 with
      | true => rfl
      | false => exact absurd (by rw [HC.out]; exact hx) hK
    have HN := Lib.hid hcn; clear hcn
    go_enter Tryz.func101, Tryz.ntmps101
    go_wp2_with fail
    refine hi.mono ?_
    rintro e w' ⟨rfl, rfl⟩
    go_wp2
    go_ret
    refine ⟨rfl, ?_⟩
    rw [HN.out]
    rfl
end Go.Proofs.YtekndndhgkdggaaGreatDoor

namespace Go.Proofs.YtekndndhgkdggaaGreatDoor
open Go.RowKit

theorem idxB_cons (c d : UInt8) (l : Bs) : idxB c (d :: l) = if d = c then 0 else if idxB c l = -1 then -1 else idxB c l + 1 := rfl

set_option maxRecDepth 100000 in
set_option maxHeartbeats 1000000 in
theorem bytesIndex_one {S S' : List Nat} {w : World} {v v' : Value} {l : Bs} (c : UInt8) (h : BS S w v l) (h' : BS S' w v' [c]) (hl : l.length ≤ 100000) :
    Calls Tryz.prog 110 #[v, v'] w fun e w' => e = .returned (.int .i64 (idxB c l)) ∧ ∃ n, w' = w.drewN n := by
  obtain ⟨a, cp, rfl, hlc, _⟩ := id h
  obtain ⟨a', cp', rfl, _, _⟩ := id h'
  have hconv : ∀ n, (convert 22 9 (.slice a' [c].length cp')).run Tryz.prog (w.drewN n) = .ok (.string (bstr [c])) (w.drewN n) := fun n => conv22_9 (h'.drewN n)
  simp only [List.length_cons, List.length_nil, Nat.zero_add] at hconv ⊢
  obtain ⟨N, hN⟩ : ∃ N, N = l.length := ⟨_, rfl⟩
  rw [← hN] at h hlc ⊢
  have hN1 : N ≤ 100000 := by omega
  have H := Lib.hid (And.intro h hN); clear h h' hl hN
  go_enter Tryz.func110, Tryz.ntmps110
  go_wp2
  go_loopw [5] (fun v wr => ∃ i n : Nat, v = .int .i64 (i : Int) ∧ i ≤ N ∧ Hid (idxB c l = if idxB c (l.drop i) = -1 then -1 else i + idxB c (l.drop i)) ∧ wr = w.drewN n) (fun v _ => N + 1 - (intOf v).toNat)
  case atStart => exact ⟨0, 0, rfl, Nat.zero_le _, by unfold Hid; simp only [List.drop_zero]; split <;> simp_all, rfl⟩
  case round =>
    obtain ⟨i, n, rfl, hi, HQ, rfl⟩ := hrel
    by_cases hiN : i < N
    · have hd := drop_at (l := l) (i := i) (by rw [← H.out.2]; exact hiN)
      have hle : decide (i + 1 ≤ N) = true := by simp; omega
      have sl := fun wy => slice22_lh a N cp .i64 .i64 (i : Int) ((i : Int) + 1) (by omega) (by omega) (by omega) wy
      have hti : ((i : Int) + 1).toNat = i + 1 := by omega
      simp only [Int.toNat_natCast, hti, show i + 1 - i = 1 from by omega] at sl
      have hbs : ∀ k, BS S (w.drewN k) (.slice (subA a cp i) 1 (cp - i)) [l.getD i 0] := fun k => by
        have h1 := (H.out.1.drop i hi).take 1 (by omega)
        rw [hd] at h1
        exact h1.drewN k
      have hcv : ∀ k, (convert 22 9 (.slice (subA a cp i) 1 (cp - i))).run Tryz.prog (w.drewN k) = .ok (.string (bstr [l.getD i 0])) (w.drewN k) := fun k => conv22_9 (hbs k)
      generalize Value.slice (subA a cp i) 1 (cp - i) = V at sl hcv
      clear hbs
      generalize l.getD i 0 = d at hd hcv
      have HD := Lib.hid hd; clear hd
      by_cases hdc : d = c
      · have hr : idxB c l = (i : Int) := by
          have hz : idxB c (l.drop i) = 0 := by rw [HD.out]; unfold idxB; rw [if_pos hdc]
          rw [HQ.out, hz]; simp
        have HR := Lib.hid hr; clear hr
        subst hdc
        go_wp2
        go_quiet (fail)
        go_wp2
        go_ret
        exact ⟨by rw [HR.out]; rfl, n + nq, by rw [← drewN_two]⟩
      · have hr : idxB c l = if idxB c (l.drop (i + 1)) = -1 then -1 else ((i + 1 : Nat) : Int) + idxB c (l.drop (i + 1)) := by
          rw [HQ.out, HD.out, idxB_cons, if_neg hdc]
          have hge := idxB_ge c (l.drop (i + 1))
          generalize idxB c (l.drop (i + 1)) = X at *
          by_cases h1 : X = -1
          · rw [if_pos h1, if_pos rfl, if_pos h1]
          · rw [if_neg h1, if_neg (by omega), if_neg h1]; omega
        have HR := Lib.hid hr; clear hr
        have hsb : ([d] == [c]) = false := by simpa using hdc
        have hsb2 : (d == c) = false := by simpa using hdc
        have HDC := Lib.hid hdc; clear hdc
        go_wp2
        go_quiet (fail)
        go_wp2
        go_roundw
        case measure => simp [intOf]; omega
        case rel => exact ⟨i + 1, n + nq, by simp, by omega, HR.out, by rw [← drewN_two]⟩
    · have hiN2 : i = N := by omega
      have hr : idxB c l = -1 := by
        have h0 : l.drop i = [] := List.drop_eq_nil_of_le (by rw [hiN2, H.out.2]; exact Nat.le_refl _)
        rw [HQ.out, h0]; rfl
      have HR := Lib.hid hr; clear hr
      have hle : decide (i + 1 ≤ N) = false := by simp; omega
      have hle2 : decide ((i : Int) + 1 ≤ (N : Int)) = false := by simp; omega
      go_wp2
      go_ret
      exact ⟨by rw [HR.out]; rfl, n, rfl⟩

/-- what bytesCut leaves, at one byte -/
def CutPost (w : World) (a : Option Addr) (N cp : Nat) (K : Int) (e : Ending) (w' : World) : Prop :=
  (∃ n, w' = w.drewN n) ∧
    ((K = -1 ∧ e = .returned (.tuple #[.slice a N cp, .slice none 0 0, .bool false])) ∨
     (∃ k : Nat, K = (k : Int) ∧ k < N ∧ e = .returned (.tuple #[.slice a k cp, .slice (subA a cp (k + 1)) (N - (k + 1)) (cp - (k + 1)), .bool true])))

set_option maxRecDepth 100000 in
set_option maxHeartbeats 1000000 in
theorem bytesCut_one {S S' : List Nat} {w : World} {a : Option Addr} {cp : Nat} {v' : Value} {l : Bs} (c : UInt8) (h : BS S w (.slice a l.length cp) l) (h' : BS S' w v' [c]) (hl : l.length ≤ 100000) :
    Calls Tryz.prog 102 #[.slice a l.length cp, v'] w (CutPost w a l.length cp (idxB c l)) := by
  have hi := bytesIndex_one c h h' hl
  have hge := idxB_ge c l
  have hlc := h.len.2
  obtain ⟨a', cp', rfl, _, _⟩ := id h'
  simp only [List.length_cons, List.length_nil, Nat.zero_add] at hi ⊢
  generalize idxB c l = K at *
  generalize l.length = N at *
  clear h h'
  by_cases hK : K = -1
  · subst hK
    go_enter Tryz.func102, Tryz.ntmps102
    go_wp2_with fail
    refine hi.mono ?_
    rintro e w1 ⟨rfl, n, rfl⟩
    go_wp2
    refine bodyPost_ret (v := .tuple #[.slice a N cp, .slice none 0 0, .bool false]) (by simp [results, Tryz.results102, go_sem]) rfl ?_
    exact ⟨⟨n, rfl⟩, .inl ⟨rfl, rfl⟩⟩
  · obtain ⟨k, rfl⟩ : ∃ k : Nat, K = (k : Int) := ⟨K.toNat, by omega⟩
    have hk : k < N := by omega
    have s1 := fun wy => slice22_h a N cp .i64 (k : Int) (by omega) (by omega) wy
    have s2 := fun wy => slice22_l a N cp .i64 ((k : Int) + 1) (by omega) (by omega) wy
    have hti : ((k : Int) + 1).toNat = k + 1 := by omega
    simp only [Int.toNat_natCast, hti] at s1 s2
    have hgk : decide ((k : Int) ≥ 0) = true := by simp
    obtain ⟨V, hV⟩ : ∃ V, V = Value.slice (subA a cp (k + 1)) (N - (k + 1)) (cp - (k + 1)) := ⟨_, rfl⟩
    rw [← hV] at s2
    have HV := Lib.hid hV; clear hV
    go_enter Tryz.func102, Tryz.ntmps102
    go_wp2_with fail
    refine hi.mono ?_
    rintro e w1 ⟨rfl, n, rfl⟩
    go_wp2
    go_quiet (fail)
    go_wp2
    refine bodyPost_ret (v := .tuple #[.slice a k cp, V, .bool true]) (by simp [results, Tryz.results102, go_sem]) rfl ?_
    exact ⟨⟨n + _, (drewN_two _ _ _)⟩, .inr ⟨k, rfl, hk, by rw [HV.out]⟩⟩
end Go.Proofs.YtekndndhgkdggaaGreatDoor

namespace Go.Proofs.YtekndndhgkdggaaGreatDoor
open Go.RowKit

def UpPost (B : Nat) (g : Nat → Addr) (h : Hs) (w : World) (rem : Bs) (e : Ending) (w' : World) : Prop :=
  (∃ n : Nat, n ≤ 1000 ∧ e = .returned (.int .i64 (n : Int))) ∧ Chg h.all w w' ∧ ∃ r lb lr, InS B g h w' r rem .nilIface lb lr

def UpIn (B : Nat) (g : Nat → Addr) (h : Hs) (w : World) (rem : Bs) (wr : World) (v : Value) (m : Bs) : Prop :=
  BS [] wr v m ∧ Chg h.all w wr ∧ ∃ r lb lr, InS B g h wr r rem .nilIface lb lr

/-- the literal of one byte as a slice of bytes -/
theorem lit_one (w : World) (c : UInt8) : ∃ W1, (convert 22 22 (.slice (some ⟨w.heap.size, 0, none⟩) 1 1)).run Tryz.prog (w.alloc (.cells #[bv c] 5)) = .ok (.slice (some ⟨w.heap.size, 0, none⟩) 1 1) W1 ∧ Chg [] w W1 ∧ BS [] W1 (.slice (some ⟨w.heap.size, 0, none⟩) 1 1) [c] := by
  refine ⟨_, Lib.run_convert_bytes_const (P := Tryz.prog) w 22 5 #[bv c] 1 1 (by kernel_rfl) (by kernel_rfl), (Chg.refl _ w).alloc _, ?_⟩
  refine BS.of_seg ⟨by simp, fun i hi => ?_⟩ rfl (Nat.le_refl _) (by simp)
  have : i = 0 := by simp at hi; omega
  subst this
  have hh : (w.alloc (.cells #[bv c] 5 (1, 2))).heap[w.heap.size]? = some (.cells #[bv c] 5 (1, 2)) := by show (w.heap.push _)[w.heap.size]? = _; simp
  have hc : (w.alloc (.cells #[bv c] 5 (1, 2))).cell? ⟨w.heap.size, 0, none⟩ = some (bv c) := by simp only [World.cell?, hh]; rfl
  exact hc

theorem drop_le {l : Bs} {k : Nat} : (l.drop k).length ≤ l.length := by simp

set_option maxRecDepth 100000 in
set_option maxHeartbeats 1000000 in
theorem upcoming_any {B : Nat} {g : Nat → Addr} {h : Hs} {w : World} {r : Nat} {rem : Bs} {lb lr : Int} {TP : Nat} {b : Value} (hs : InS B g h w r rem .nilIface lb lr) (ht : Blk w TP (tpc h b) 174) (hn : TP ∉ h.all) :
    Calls Tryz.prog 97 #[.pointer (some ⟨TP, 0, none⟩)] w (UpPost B g h w rem) := by
  have hl := hs.lt
  obtain ⟨t0, t1, t2, _⟩ := tp_cells ht
  by_cases he : rem = []
  · subst he
    have hp := Lib.hid (peek_out hs 1 (by simp) (by omega))
    have HT := Lib.hid ht; clear ht hs
    go_enter Tryz.func97, Tryz.ntmps97
    go_wp2_with fail
    refine hp.out.mono ?_
    rintro e w2 ⟨rfl, hc2, hin2⟩
    obtain ⟨d0, d1, d2, _⟩ := tp_cells (HT.out.chg hc2 hn)
    have hb := hin2.br
    simp only [List.length_nil, Nat.zero_add] at hb
    have hbuf := Lib.hid (buffered_any hb ⟨Nat.le_refl _, by omega⟩)
    have H2 := Lib.hid (And.intro hc2 hin2); clear hc2 hin2 hb
    go_wp2_with fail
    refine hbuf.out.mono ?_
    rintro e w3 ⟨rfl, n, rfl⟩
    go_wp2
    go_ret
    exact ⟨⟨0, by omega, rfl⟩, H2.out.1.drewN n, 0, -1, -1, H2.out.2.draw ((Chg.refl [] _).drewN n) (by simp)⟩
  · have hpos := List.length_pos_iff.2 he
    have hp := Lib.hid (peek_in hs 1 (by omega))
    have HT := Lib.hid ht; clear ht hs
    go_enter Tryz.func97, Tryz.ntmps97
    go_wp2_with fail
    refine hp.out.mono ?_
    rintro e w2 ⟨rfl, hc2, hin2⟩
    have hca : Chg h.all w w2 := hc2.mono (by unfold Hs.all; simp)
    obtain ⟨d0, d1, d2, _⟩ := tp_cells (HT.out.chg hca hn)
    obtain ⟨x, hx⟩ : ∃ x, x = r + rem.length := ⟨_, rfl⟩
    have hb := hin2.br
    rw [← hx] at hb
    have hbuf := Lib.hid (buffered_any hb ⟨by omega, by omega⟩)
    rw [show x - r = rem.length from by omega] at hbuf
    have H2 := Lib.hid (And.intro hca hin2); clear hc2 hca hin2 hb
    have HX := Lib.hid hx; clear hx
    have hlen : ((rem.length : Int) == 0) = false := by rw [beq_eq_false_iff_ne]; omega
    go_wp2_with fail
    refine hbuf.out.mono ?_
    rintro e w3 ⟨rfl, n, rfl⟩
    have hp2 := Lib.hid (peek_in (H2.out.2.draw ((Chg.refl [] _).drewN n) (by simp)) rem.length (Nat.le_refl _))
    go_wp2_with fail
    refine hp2.out.mono ?_
    rintro e w4 ⟨rfl, hc4, hin4⟩
    have hup : UpIn B g h w rem w4 (.slice (some ⟨h.U, r, none⟩) rem.length (4096 - r)) rem :=
      ⟨BS.of_seg hin4.seg rfl (by omega) (by simp), (H2.out.1.drewN n).trans (hc4.mono (by unfold Hs.all; simp)), r, _, _, hin4⟩
    have HU := Lib.hid hup; clear hup hc4 hin4
    have hrl : rem.length ≤ 3000 := by omega
    go_wp2
    go_loopw [2, 4] (fun v2 v4 wr => ∃ (k : Nat) (m : Bs), v2 = .int .i64 (k : Int) ∧ k ≤ 1000 ∧ m.length ≤ 3000 ∧ (∃ a c, v4 = .slice a m.length c) ∧ Hid (UpIn B g h w rem wr v4 m)) (fun _ v _ => lenV v)
    case atStart => exact ⟨0, rem, rfl, by omega, hrl, ⟨_, _, rfl⟩, HU.out⟩
    case round =>
      obtain ⟨k, m, rfl, hk, hm3, ⟨a, c, rfl⟩, HI⟩ := hrel
      by_cases hm0 : m = []
      · subst hm0
        simp only [List.length_nil] at *
        go_wp2
        go_ret
        exact ⟨⟨k, hk, rfl⟩, HI.out.2⟩
      · have hml := List.length_pos_iff.2 hm0
        by_cases hk2 : k < 1000
        · have hkd : decide (k < 1000) = true := by simpa using hk2
          have hmd : decide (0 < m.length) = true := by simpa using hml
          obtain ⟨W1, hcv, hcw, hbs⟩ := lit_one wr 10
          have hcv : (convert 22 22 (.slice (some ⟨wr.heap.size, 0, none⟩) 1 1)).run Tryz.prog (wr.alloc (.cells #[.int .u8 10] 5)) = .ok (.slice (some ⟨wr.heap.size, 0, none⟩) 1 1) W1 := hcv
          have hcut := bytesCut_one 10 (HI.out.1.chg hcw) hbs (by omega)
          have HC := Lib.hid hcut; clear hcut hbs
          have hge := idxB_ge 10 m
          have HIA : Chg h.all w W1 ∧ (∃ r lb lr, InS B g h W1 r rem .nilIface lb lr) ∧ BS [] W1 (.slice a m.length c) m := by
            obtain ⟨h1, h2, r', lb', lr', h3⟩ := HI.out
            exact ⟨h2.trans hcw.none, ⟨r', lb', lr', h3.draw hcw (by simp)⟩, h1.chg hcw⟩
          have HIA := Lib.hid HIA
          clear hcw
          generalize hM : m.length = M at *
          generalize idxB 10 m = K at *
          go_wp2_with fail
          refine HC.out.mono ?_
          rintro e w5 ⟨⟨n5, rfl⟩, hor⟩
          have HN := Lib.hid hM; clear hM
          have hone : ∃ (L : Nat) (m' : Bs) (a' : Option Addr) (c' : Nat) (bb : Bool), e = .returned (.tuple #[.slice a L c, .slice a' m'.length c', .bool bb]) ∧ L ≤ M ∧ Hid (BS [] (W1.drewN n5) (.slice a' m'.length c') m') ∧ m'.length < M := by
            rcases hor with ⟨_, rfl⟩ | ⟨j, _, hj, rfl⟩
            · exact ⟨M, [], none, 0, _, rfl, Nat.le_refl _, BS.nil _ _, by simp; omega⟩
            · have hd := (HIA.out.2.2.drop (j + 1) (by omega)).drewN n5
              have hdl : (m.drop (j + 1)).length = M - (j + 1) := by rw [List.length_drop, HN.out]
              exact ⟨j, m.drop (j + 1), _, _, true, by rw [hdl], by omega, by rw [hdl]; exact hd, by omega⟩
          clear hor
          obtain ⟨L, m', a', c', bb, rfl, hLM, HB, hm'⟩ := hone
          obtain ⟨b1, o1, hab, _, hs1⟩ := HIA.out.2.2.at_ (by omega)
          subst hab
          have hcell := (hs1.chg (Chg.drewN (Chg.refl [] _) n5) (by simp)).cell 0 (by rw [HN.out]; omega)
          rw [Nat.add_zero] at hcell
          generalize m.getD 0 0 = d at hcell
          have FIN : ∀ k' : Nat, k' ≤ 1000 → UpPost B g h w rem (.returned (.int .i64 (k' : Int))) (W1.drewN n5) := fun k' hk' => by
            obtain ⟨h1, ⟨r', lb', lr', h3⟩, _⟩ := HIA.out
            exact ⟨⟨k', hk', rfl⟩, h1.drewN _, r', lb', lr', h3.draw ((Chg.refl [] _).drewN _) (by simp)⟩
          have FIN := Lib.hid FIN
          have REL : ∀ k' : Nat, k' ≤ 1000 → ∃ (k : Nat) (m : Bs), Value.int .i64 (k' : Int) = .int .i64 (k : Int) ∧ k ≤ 1000 ∧ m.length ≤ 3000 ∧ (∃ a c, Value.slice a' m'.length c' = .slice a m.length c) ∧ Hid (UpIn B g h w rem (W1.drewN n5) (.slice a' m'.length c') m) := fun k' hk' => by
            obtain ⟨h1, ⟨r', lb', lr', h3⟩, _⟩ := HIA.out
            exact ⟨k', m', rfl, hk', by omega, ⟨_, _, rfl⟩, HB.out, h1.drewN _, r', lb', lr', h3.draw ((Chg.refl [] _).drewN _) (by simp)⟩
          have REL := Lib.hid REL
          have HM' := Lib.hid hm'; clear hm' hs1
          have hL3 : L ≤ 3000 := by omega
          have HLM := Lib.hid hLM; clear hLM
          by_cases hL0 : L = 0
          · subst hL0
            go_wp2
            go_ret
            exact FIN.out k hk
          · have hz : ((L : Int) == 0) = false := by rw [beq_eq_false_iff_ne]; omega
            by_cases hbr : L = 1 ∧ d = 13
            · obtain ⟨rfl, h13⟩ := hbr
              have hd := bv13' h13
              clear h13
              go_wp2
              go_ret
              exact FIN.out k hk
            · have hbr2 : ((L : Int) == 1) = false ∨ ((d.toNat : Int) == 13) = false := by
                by_cases h1 : L = 1
                · right; exact bv13 (fun h => hbr ⟨h1, h⟩)
                · left; rw [beq_eq_false_iff_ne]; omega
              have hlp : 0 < L := by omega
              clear hbr
              have HP : Hid (0 < L) := hlp
              cases hbl : blankB d
              · have hn32 : ((d.toNat : Int) == 32) = false := bv_ne 32 _ rfl (fun h => by rw [h] at hbl; cases hbl)
                have hn9 : ((d.toNat : Int) == 9) = false := bv_ne 9 _ rfl (fun h => by rw [h] at hbl; cases hbl)
                clear hbl
                cases h1 : ((L : Int) == 1)
                · go_wp2
                  go_roundw
                  case measure => exact HM'.out
                  case rel => exact REL.out (k + 1) (by omega)
                · have h13 := hbr2.resolve_left (by rw [h1]; simp)
                  go_wp2
                  go_roundw
                  case measure => exact HM'.out
                  case rel => exact REL.out (k + 1) (by omega)
              · have hor : d = 32 ∨ d = 9 := by simpa [blankB] using hbl
                have h13 : ((d.toNat : Int) == 13) = false := bv13 (fun h => by rw [h] at hbl; cases hbl)
                clear hbl
                rcases hor with rfl | rfl
                · cases h1 : ((L : Int) == 1)
                  · go_wp2
                    go_roundw
                    case measure => exact HM'.out
                    case rel => exact REL.out k hk
                  · go_wp2
                    go_roundw
                    case measure => exact HM'.out
                    case rel => exact REL.out k hk
                · cases h1 : ((L : Int) == 1)
                  · go_wp2
                    go_roundw
                    case measure => exact HM'.out
                    case rel => exact REL.out k hk
                  · go_wp2
                    go_roundw
                    case measure => exact HM'.out
                    case rel => exact REL.out k hk
        · have hkd : decide (k < 1000) = false := by simpa using hk2
          have hkk : k = 1000 := by omega
          have hmd : decide (0 < m.length) = true := by simpa using hml
          subst hkk
          go_wp2
          go_ret
          exact ⟨⟨1000, by omega, rfl⟩, HI.out.2⟩
end Go.Proofs.YtekndndhgkdggaaGreatDoor
