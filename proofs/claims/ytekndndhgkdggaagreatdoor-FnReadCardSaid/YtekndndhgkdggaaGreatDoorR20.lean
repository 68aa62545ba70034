/- A new part that is to be decoded, where its header doesn't ask for it: it stays as it stands. The law FnRead, walked. From the row's hypotheses to the walks' words: what the listed variables hold; slices of bytes, of truths. laws.FnRead: for every input it returns true, and the input reads as it did; the card. Conditions: the listed package-level variables hold what the program's text lays (the card ties them). -/
import Derived.Test.YtekndndhgkdggaaGreatDoorR19
import Derived.Test.YtekndndhgkdggaaGreatDoorR18
import Derived.Test.YtekndndhgkdggaaGreatDoorRows
import Derived.Test.YtekndndhgkdggaaGreatDoorR6
import Derived.Test.YtekndndhgkdggaaGreatDoorR5
import Derived.WalkKit
import Derived.ProofKit
import Derived.OpenShut
import Derived.OpenVars
import Derived.Stop.LaidErr
import Derived.Deep.Grids
import Derived.MakeChecks
import Derived.Lib.LaidTab
import Derived.Test.YtekndndhgkdggaaGreatDoorCards
import Derived.Test.YtekndndhgkdggaaGreatDoorTie
import Derived.Lay
import Derived.SevenTiedAt
import Derived.Handed
namespace Go.Proofs.YtekndndhgkdggaaGreatDoor
open Go.RowKit

theorem qp_plain : PlainB qpB := by unfold PlainB qpB; decide

set_option maxRecDepth 100000 in
set_option maxHeartbeats 4000000 in
theorem newDec_any {B : Nat} {g : Nat → Addr} {h : Hs} {w : World} {r : Nat} {rem : Bs} {lb lr : Int} {MR : Nat} {mcs : Array Value} (hs : InS B g h w r rem .nilIface lb lr) (hm : Blk w MR mcs 81) (hm0 : mcs[0]? = some (.pointer (some ⟨h.BR, 0, none⟩)))
    (hnp : ∀ fs rem', hdrB rem = .ok fs rem' → printableB fs = false) :
    Calls Tryz.prog 48 #[.pointer (some ⟨MR, 0, none⟩), .bool false, .int .i64 10485760, .int .i64 10000] w (NpPost B g h MR w rem) := by
  have hc1 : Chg [] w ((w.alloc (.map #[] 0)).alloc (.cells (ptc0 MR (.map (some w.heap.size)) .nilIface) 93)) := ((Chg.refl [] w).alloc _).alloc _
  have hs1 := hs.draw hc1 (by simp)
  have hb1 : Blk ((w.alloc (.map #[] 0)).alloc (.cells (ptc0 MR (.map (some w.heap.size)) .nilIface) 93)) (w.heap.size + 1) (ptc0 MR (.map (some w.heap.size)) .nilIface) 93 := Blk.at_ _ (by simp) _ _
  have hall := hs.blks
  have hPn : w.heap.size + 1 ∉ h.all := fun hx => by have := (hall _ hx).1; omega
  have hle := hs.gl.le
  have hpop := Lib.hid (popHdr_any hs1 hb1 (hm.chg hc1 (by simp)) hm0 hPn (by omega))
  unfold ptc0 at hpop
  have H := Lib.hid (And.intro hc1 (And.intro hall hPn)); clear hc1 hs1 hb1 hall hPn hs hm hm0
  have HNP := Lib.hid hnp; clear hnp
  have hmk := @run_makeMap Tryz.prog 89
  go_enter Tryz.func48, Tryz.ntmps48
  go_wp2_with fail
  refine hpop.out.mono ?_
  rintro e w2 ⟨hc2, hk⟩
  have hcw : Hid (Chg h.all w w2) := by
    have h1 := H.out.1.none.trans hc2
    exact h1.less (fun x hx => by
      rcases List.mem_cons.1 hx with rfl | hx
      · exact .inr (by omega)
      · exact .inl hx)
  clear hc2 hpop
  obtain ⟨o, ho⟩ : ∃ o, o = hdrB rem := ⟨_, rfl⟩
  rw [← ho] at hk
  have HO := Lib.hid ho; clear ho
  cases o with
  | ok fs rem' =>
    obtain ⟨rfl, M, gs, SB, n, ns, base, hbase, hb2, hms, hfs, hsb, hin⟩ := hk
    have f4 : w2.frozen? ⟨w.heap.size + 1, 4, none⟩ = false := hb2.free 4
    have c4 : w2.cell? ⟨w.heap.size + 1, 4, none⟩ = some .nilIface := hb2.cell 4
    have hb3 := hb2.set 4 (.iface 125 (.agg #[.pointer (some ⟨w.heap.size + 1, 0, none⟩)]))
    have hbs : w.heap.size + 1 < base := by simp at hbase; omega
    have hcf : Chg [w.heap.size + 1] w2 (w2.setCell ⟨w.heap.size + 1, 4, none⟩ (.iface 125 (.agg #[.pointer (some ⟨w.heap.size + 1, 0, none⟩)]))) := (Chg.refl [w.heap.size + 1] w2).setCell (.inl (by simp)) _
    have hmm3 : MapS base SB ns (w2.setCell ⟨w.heap.size + 1, 4, none⟩ (.iface 125 (.agg #[.pointer (some ⟨w.heap.size + 1, 0, none⟩)]))) M n gs := by
      refine hms.chg hcf ?_ ?_
      · have := hms.mb.1; simp; omega
      · intro f hf k hk hmm
        simp at hmm; subst hmm
        rcases hms.blk f hf _ hk with h1 | ⟨h1, _⟩
        · rcases (hms.vals f hf).2 with ⟨i, s, hi, hvv, _⟩ | ⟨_, k2, hk2, hkS⟩
          · have : ¬ SB < base := fun hl => by have := hsb hl; omega
            omega
          · rw [hk] at hk2; cases hk2; exact hkS h1
        · omega
    have hin3 : ∃ r lb lr, InS B g h (w2.setCell ⟨w.heap.size + 1, 4, none⟩ (.iface 125 (.agg #[.pointer (some ⟨w.heap.size + 1, 0, none⟩)]))) r rem' .nilIface lb lr := hin.imp fun r k => k.imp fun lb k => k.imp fun lr k => k.draw hcf (fun x hx => by simp at hx; subst hx; exact ⟨by omega, H.out.2.2⟩)
    have hgl := hin3.choose_spec.choose_spec.choose_spec.gl
    have hget := Lib.hid (get_any hmm3)
    have hpf : printableB (fsOf gs) = false := by rw [hfs.1]; exact HNP.out fs rem' HO.out.symm
    rw [printable_of] at hpf
    have heq := Lib.hid (eqFold_any hgl (s := (vsOf gs cteB).headD []) (t := qpB) (by decide) qp_plain (by simpa using hpf))
    have c0 : (w2.setCell ⟨w.heap.size + 1, 4, none⟩ (.iface 125 (.agg #[.pointer (some ⟨w.heap.size + 1, 0, none⟩)]))).cell? ⟨w.heap.size + 1, 0, none⟩ = some (.map (some M)) := hb3.cell 0
    have HK := Lib.hid (And.intro hbase (And.intro hbs (And.intro hb3 (And.intro hmm3 (And.intro hfs (And.intro hsb hin3)))))); clear hbase hbs hb2 hb3 hms hfs hsb hin hmm3 hin3 hgl
    have HCF := Lib.hid hcf; clear hcf
    generalize (vsOf gs cteB).headD [] = cte at *
    have hq1 : (⟨#[67, 111, 110, 116, 101, 110, 116, 45, 84, 114, 97, 110, 115, 102, 101, 114, 45, 69, 110, 99, 111, 100, 105, 110, 103]⟩ : ByteArray) = bstr cteB := rfl
    have hq2 : (⟨#[113, 117, 111, 116, 101, 100, 45, 112, 114, 105, 110, 116, 97, 98, 108, 101]⟩ : ByteArray) = bstr qpB := rfl
    go_wp2_with (first
      | (go_at_call 62; refine hget.out.mono ?_; rintro e w3 ⟨rfl, rfl⟩)
      | (go_at_call 61; refine heq.out.mono ?_; rintro e w4 ⟨rfl, hc4⟩))
    go_ret2
    obtain ⟨hbase, hbs, hb3, hms, hfs, hsb, hin⟩ := HK.out
    unfold NpPost
    rw [← HO.out]
    refine ⟨(hcw.out.thn HCF.out (fun x hx => by simp at hx; right; omega)).thn hc4 (by simp), w.heap.size + 1, M, gs, SB, n, ns, base, rfl, by omega, hbs, hb3.chg hc4 (by simp), hms.chg hc4 (by simp) (by simp), hfs, hsb, hin.imp fun r k => k.imp fun lb k => k.imp fun lr k => k.draw hc4 (by simp)⟩
  | early =>
    subst hk
    go_wp2
    go_ret2
    unfold NpPost
    rw [← HO.out]
    exact ⟨hcw.out, rfl⟩
  | wrong =>
    obtain ⟨er, rfl, hor⟩ := hk
    have hor2 := Lib.hid hor
    rcases hor with ⟨s, rfl⟩ | rfl
    · unfold perr
      go_wp2
      go_ret2
      unfold NpPost
      rw [← HO.out]
      exact ⟨hcw.out, _, rfl, .inl ⟨s, rfl⟩⟩
    · go_wp2
      go_ret2
      unfold NpPost
      rw [← HO.out]
      exact ⟨hcw.out, _, rfl, .inr rfl⟩
theorem newDec_c {rem : Bs} (hnp : ∀ fs rem', hdrB rem = .ok fs rem' → printableB fs = false) (B : Nat) (g : Nat → Addr) (h : Hs) : NpC B g h false rem := fun _ _ _ _ _ _ hs hm hm0 => newDec_any hs hm hm0 hnp
end Go.Proofs.YtekndndhgkdggaaGreatDoor

namespace Go.Proofs.YtekndndhgkdggaaGreatDoor
open Go.RowKit

set_option maxRecDepth 100000 in
set_option maxHeartbeats 4000000 in
theorem fnRead_any {B : Nat} {g : Nat → Addr} {w : World} {v : Value} {rem bd : Bs} (raw : Bool) (hg : Glb B g w) (h : BS [] w v rem) : Calls Tryz.prog 3 #[v, .string (bstr bd), .bool raw] w (TruePost w) := by
  obtain ⟨a, c, rfl, hlc, _⟩ := id h
  have HG := Lib.hid (And.intro hg h); clear hg h
  by_cases a1 : rem.length > 2147483647
  · have t1 : decide ((rem.length : Int) > 2147483647) = true := decide_eq_true (by omega)
    clear a1
    go_enter Tryz.func3, Tryz.ntmps3
    go_wp2
    go_ret
    exact ⟨rfl, Chg.refl _ _⟩
  have t1 : decide ((rem.length : Int) > 2147483647) = false := decide_eq_false (by omega)
  by_cases a2 : bd.length > 2147483647
  · have t2 : decide ((bd.length : Int) > 2147483647) = true := decide_eq_true (by omega)
    clear a1 a2
    go_enter Tryz.func3, Tryz.ntmps3
    go_wp2
    go_ret
    exact ⟨rfl, Chg.refl _ _⟩
  have t2 : decide ((bd.length : Int) > 2147483647) = false := decide_eq_false (by omega)
  clear a1 a2
  by_cases b1 : rem.length > 3000
  · have q1 : decide ((rem.length : Int) > 3000) = true := decide_eq_true (by omega)
    clear b1
    go_enter Tryz.func3, Tryz.ntmps3
    go_wp2
    go_ret
    exact ⟨rfl, Chg.refl _ _⟩
  have q1 : decide ((rem.length : Int) > 3000) = false := decide_eq_false (by omega)
  by_cases b2 : bd.length > 100
  · have q2 : decide ((bd.length : Int) > 100) = true := decide_eq_true (by omega)
    clear b1 b2
    go_enter Tryz.func3, Tryz.ntmps3
    go_wp2
    go_ret
    exact ⟨rfl, Chg.refl _ _⟩
  have q2 : decide ((bd.length : Int) > 100) = false := decide_eq_false (by omega)
  have hw : BoolS w (.slice none 0 0) [] := ⟨none, 0, rfl, Nat.le_refl _, .inl rfl⟩
  have hsp := Lib.hid (specRead_any (bd := bd) raw HG.out.2 hw (by omega) (by omega) (by simp))
  clear hw
  obtain ⟨res, hres⟩ : ∃ res, specB bd raw [] rem = res := ⟨_, rfl⟩
  rw [hres] at hsp
  unfold SpecPost at hsp
  cases res with
  | none =>
    clear b1 b2 hres
    go_enter Tryz.func3, Tryz.ntmps3
    go_wp2_with fail
    refine hsp.out.mono ?_
    rintro e w1 ⟨v1, rfl, hc1⟩
    go_wp2
    go_ret
    exact ⟨rfl, hc1⟩
  | some pr =>
    obtain ⟨ps, how⟩ := pr
    have HB := Lib.hid (And.intro b1 (And.intro b2 hres)); clear b1 b2 hres
    go_enter Tryz.func3, Tryz.ntmps3
    go_wp2_with fail
    refine hsp.out.mono ?_
    rintro e w1 ⟨v1, rfl, hp1, hc1⟩
    obtain ⟨a1, c1, rfl, hac1, _⟩ := id hp1
    have hsk := Lib.hid (read_any raw (HG.out.1.chg hc1 (by simp)) (HG.out.2.chg hc1) (by have := HB.out.1; omega) (by have := HB.out.2.1; omega) HB.out.2.2 (fun _ B g h rem hnp => newDec_c hnp B g h))
    have H1 := Lib.hid (And.intro hp1 hc1); clear hp1 hc1 hsp
    unfold ImPost at hsk
    go_wp2_with fail
    refine hsk.out.mono ?_
    rintro e w2 ⟨v2, rfl, hp2, hc2⟩
    obtain ⟨a2, c2, rfl, hac2, _⟩ := id hp2
    have hsm := Lib.hid (same_any hp2 (H1.out.1.chg hc2) (specB_small HB.out.2.2 (by have := HB.out.1; omega)))
    have hcw := Lib.hid (H1.out.2.trans hc2)
    clear hp2 hc2 hsk
    unfold TruePost at hsm
    go_wp2_with (first
      | (go_at_call 7; refine hsm.out.mono ?_; rintro e w3 ⟨rfl, hc3⟩)
      | (go_at_call 8; refine (alive_any ((HG.out.1.chg hcw.out (by simp)).chg hc3 (by simp))).mono ?_; rintro e w4 ⟨rfl, hc4⟩))
    go_ret
    exact ⟨rfl, (hcw.out.trans hc3).trans hc4⟩
end Go.Proofs.YtekndndhgkdggaaGreatDoor

namespace Go.Proofs.YtekndndhgkdggaaGreatDoor
open Go.ChangeShapes Go.WideShapes Go.ChangeAt Go.RowKit

theorem own : ownKnob Tryz.prog.godebug = none := by kernel_rfl
theorem laidOut : laidOutB Tryz.prog = true := by kernel_rfl
theorem star118 : "*" ++ "errors.errorString" = "*errors.errorString" := by decide
theorem row118 (u : TypeId) (h : Tryz.prog.typeName? 3 u = some "*errors.errorString") : u = 118 :=
  typeName_ptr_named (nm := "errors.errorString") (by rw [star118]; kernel_rfl) (by kernel_rfl) (by decide) u (by rw [star118]; exact h)

set_option maxRecDepth 100000 in
theorem laid_one {n : String} {text : List UInt8} {r : List (String × DataW Unit)} {W : World} {g : Nat} (h : laidMet Tryz.prog ((n, .iface "*errors.errorString" (.ptr (.agg [.lit (.string text)]))) :: r) W)
    (hg : Tryz.prog.globalNamed n = some g) (ht : (Tryz.prog.globals[g]?).map (·.type) = some 54) :
    ∃ (a : Addr) (cs : Array Value) (T : TypeId), W.cell? ⟨g, 0, none⟩ = some (erv a) ∧ W.cell? a = some (.string (bstr text)) ∧ Blk W a.block cs T := by
  obtain ⟨ps, ⟨g0', t0', cs0, f0, p0, q0, hg0', ht0', hv0, hd0, _, e0⟩, hnd, hrows⟩ := h
  obtain rfl := Option.some.inj (hg.symm.trans hg0')
  obtain rfl := Option.some.inj (ht.symm.trans ht0')
  subst e0
  obtain ⟨l0⟩ := cs0
  have ok0 : ∀ u v, l0 = [.iface u v] → Value.okWide Tryz.prog W .any 0 u v := fun u v e => by
    subst e
    exact (hrows g 0 (by simp [MemPlace.row])).2 u v (by simpa using World.var?_cell hg0' hv0 0)
  obtain ⟨a0, s0, rfl, hc0, hs0, hz0, rfl⟩ := errorString_of_trod (te := 120) (ts := 9) (Tryz.underlying54) row118 Tryz.underlying118 Tryz.underlying120 rfl rfl Tryz.underlying9 (by kernel_rfl) (by kernel_rfl) hd0 ok0
  obtain ⟨c0, t0, hb0⟩ := (hrows a0.block a0.off (by simp [MemPlace.row])).1
  refine ⟨a0, c0, t0, by simpa using World.var?_cell hg0' hv0 0, ?_, hb0⟩
  rw [hc0, ← hs0, bstr_of]

/-- unicode.asciiFold -/
def foldZ : List Int := [0, 1, 2, 3, 4, 5, 6, 7, 8, 9, 10, 11, 12, 13, 14, 15, 16, 17, 18, 19, 20, 21, 22, 23, 24, 25, 26, 27, 28, 29, 30, 31, 32, 33, 34, 35, 36, 37, 38, 39, 40, 41, 42, 43, 44, 45, 46, 47, 48, 49, 50, 51, 52, 53, 54, 55, 56, 57, 58, 59, 60, 61, 62, 63, 64, 97, 98, 99, 100, 101, 102, 103, 104, 105, 106, 107, 108, 109, 110, 111, 112, 113, 114, 115, 116, 117, 118, 119, 120, 121, 122, 91, 92, 93, 94, 95, 96, 65, 66, 67, 68, 69, 70, 71, 72, 73, 74, 8490, 76, 77, 78, 79, 80, 81, 82, 383, 84, 85, 86, 87, 88, 89, 90, 123, 124, 125, 126, 127]
theorem gFold : Tryz.prog.globalNamed "unicode.asciiFold" = some 7 := by kernel_rfl
theorem foldZ_eq {i : Nat} (h : i < 128) (h1 : i ≠ 107) (h2 : i ≠ 115) : foldZ.getD i 0 = (foldA i : Int) := by
  have h3 : ((List.range 128).all fun i => i == 107 || i == 115 || foldZ.getD i 0 == (foldA i : Int)) = true := by kernel_rfl
  have := List.all_eq_true.1 h3 i (by simpa using h)
  simpa [h1, h2] using this

set_option maxRecDepth 100000 in
/-- WHAT THE LIST GIVES -/
theorem glb_of_laid {W : World} (h : laidMetH Tryz.prog Rows.fnSkippedRow.laid W) : ∃ g, Glb W.heap.size g W := by
  rw [MakeChecks.laidMetH_plain _ _ _ (by kernel_rfl)] at h
  have h1 := laidMet.tail h
  obtain ⟨a0, c0, t0, e0, s0, b0⟩ := laid_one h1 (by kernel_rfl : Tryz.prog.globalNamed "io.EOF" = some 0) (by kernel_rfl)
  have h2 := laidMet.tail h1
  obtain ⟨a1, c1, t1, e1, s1, b1⟩ := laid_one h2 (by kernel_rfl : Tryz.prog.globalNamed "io.ErrUnexpectedEOF" = some 1) (by kernel_rfl)
  have h3 := laidMet.tail h2
  obtain ⟨a4, c4, t4, e4, s4, b4⟩ := laid_one h3 (by kernel_rfl : Tryz.prog.globalNamed "io.ErrNoProgress" = some 4) (by kernel_rfl)
  have h5 := laidMet.tail h3
  have htab : Lib.TabIs Tryz.prog W "unicode.asciiFold" .u16 foldZ := Lib.tabIs_of_head gFold (by kernel_rfl) Tryz.underlying176 Tryz.underlying175 (by kernel_rfl) (by kernel_rfl) h5
  have h6 := laidMet.tail (laidMet.tail h5)
  obtain ⟨a14, c14, t14, e14, s14, b14⟩ := laid_one h6 (by kernel_rfl : Tryz.prog.globalNamed "bufio.ErrInvalidUnreadByte" = some 14) (by kernel_rfl)
  have h7 := laidMet.tail h6
  obtain ⟨a2, c2, t2, e2, s2, b2⟩ := laid_one h7 (by kernel_rfl : Tryz.prog.globalNamed "bufio.ErrBufferFull" = some 2) (by kernel_rfl)
  have h8 := laidMet.tail h7
  obtain ⟨a13, c13, t13, e13, s13, b13⟩ := laid_one h8 (by kernel_rfl : Tryz.prog.globalNamed "bufio.ErrNegativeCount" = some 13) (by kernel_rfl)
  have h9 := laidMet.tail h8
  obtain ⟨a3, c3, t3, e3, s3, b3⟩ := laid_one h9 (by kernel_rfl : Tryz.prog.globalNamed "bufio.errNegativeRead" = some 3) (by kernel_rfl)
  have h10 := laidMet.tail h9
  obtain ⟨a12, c12, t12, e12, s12, b12⟩ := laid_one h10 (by kernel_rfl : Tryz.prog.globalNamed "loop.example/pub-g03281/pub/textproto.errMessageTooLarge" = some 12) (by kernel_rfl)
  have h11 := laidMet.tail h10
  obtain ⟨a5, c5, t5, e5, s5, b5⟩ := laid_one h11 (by kernel_rfl : Tryz.prog.globalNamed "loop.example/pub-g03281/pub/multipart.ErrMessageTooLarge" = some 5) (by kernel_rfl)
  clear h h1 h2 h3 h5 h6 h7 h8 h9 h10 h11
  have hlo : 15 ≤ W.heap.size := by
    rcases Nat.lt_or_ge 14 W.heap.size with h | h
    · exact h
    · simp [World.cell?, Array.getElem?_eq_none h] at e14
  have hcase : ∀ i : Nat, i < 6 ∨ (12 ≤ i ∧ i < 15) → i = 0 ∨ i = 1 ∨ i = 2 ∨ i = 3 ∨ i = 4 ∨ i = 5 ∨ i = 12 ∨ i = 13 ∨ i = 14 := fun i hi => by omega
  have hne : ∀ {a b : Addr} {s t : Bs}, W.cell? a = some (.string (bstr s)) → W.cell? b = some (.string (bstr t)) → s ≠ t → a ≠ b := fun {a b s t} ha hb hst e => by
    rw [e, hb] at ha
    exact hst (bstr_inj (by simpa using ha.symm))
  refine ⟨fun i => match i with | 0 => a0 | 1 => a1 | 2 => a2 | 3 => a3 | 4 => a4 | 5 => a5 | 12 => a12 | 13 => a13 | _ => a14, ⟨Nat.le_refl _, hlo, fun i hi => ?_, fun i hi => ?_, s12, s0, ?_, fun i h1 h2 h3 => ?_⟩⟩
  · rcases hcase i hi with rfl | rfl | rfl | rfl | rfl | rfl | rfl | rfl | rfl
    · exact ⟨e0, b0.lt⟩
    · exact ⟨e1, b1.lt⟩
    · exact ⟨e2, b2.lt⟩
    · exact ⟨e3, b3.lt⟩
    · exact ⟨e4, b4.lt⟩
    · exact ⟨e5, b5.lt⟩
    · exact ⟨e12, b12.lt⟩
    · exact ⟨e13, b13.lt⟩
    · exact ⟨e14, b14.lt⟩
  · rcases hcase i hi with rfl | rfl | rfl | rfl | rfl | rfl | rfl | rfl | rfl
    · exact ⟨_, _, b0⟩
    · exact ⟨_, _, b1⟩
    · exact ⟨_, _, b2⟩
    · exact ⟨_, _, b3⟩
    · exact ⟨_, _, b4⟩
    · exact ⟨_, _, b5⟩
    · exact ⟨_, _, b12⟩
    · exact ⟨_, _, b13⟩
    · exact ⟨_, _, b14⟩
  · exact ⟨hne s0 s1 (by decide), hne s0 s12 (by decide), hne s0 s5 (by decide), hne s0 s2 (by decide)⟩
  · rw [htab.cell gFold i (by show i < 128; exact h1), foldZ_eq h1 h2 h3]

set_option maxRecDepth 100000 in
/-- a slice as it comes in -/
theorem okWide_at {W : World} {base : Nat} {t e : TypeId} {v : Value} (ht : Tryz.prog.underlying t = some (.slice e)) (h : Value.okWide Tryz.prog W .any base t v) :
    v = .slice none 0 0 ∨ ∃ b o len cap, v = .slice (some ⟨b, o, none⟩) len cap ∧ b < W.heap.size ∧ len ≤ cap := by
  simp only [Value.okWide, ht, Cell.okWide] at h
  cases v with
  | slice a len cap =>
    cases a with
    | none =>
      left
      match len, cap, h with
      | 0, 0, _ => rfl
      | 0, n + 1, h => simp [Cell.ok, ht] at h
      | n + 1, m, h => simp [Cell.ok, ht] at h
    | some a =>
      right
      simp only [Cell.ok, ht] at h
      obtain ⟨h1, _, _, h2, row, cells, h3, _⟩ := h
      obtain ⟨b, o, sp⟩ := a
      simp only at h2 h3
      subst h2
      refine ⟨b, o, len, cap, rfl, ?_, h1⟩
      rcases Nat.lt_or_ge b W.heap.size with h | h
      · exact h
      · simp [World.shape?, Array.getElem?_eq_none h] at h3
  | _ => simp_all [Cell.ok]

section
variable {H : Type} {enc : TypeId × Value → H}

set_option maxRecDepth 100000 in
theorem open_bs {W : World} {base : Nat} {v : Value} {d : DataW H} {p : List MemPlace} (hval : Value.okWide Tryz.prog W .any base 22 v) (h : DataW.Trod enc Tryz.prog W 0 (fun _ => true) true 22 v d p) : ∃ l : Bs, BS [] W v l := by
  rcases okWide_at Tryz.underlying22 hval with rfl | ⟨b, o, len, cap, rfl, hb, hlc⟩
  · exact ⟨[], BS.nil _ _⟩
  · obtain ⟨fuel, hf⟩ := h
    rcases open_ints Tryz.underlying22 Tryz.underlying5 (by kernel_rfl) hf with ⟨hcs, _⟩ | ⟨a, len', cap', zs, hcs, _, hl, hm, hz, _, hcell, hwz⟩
    · simp [Value.cells] at hcs
    · simp [Value.cells] at hcs
      obtain ⟨rfl, rfl, rfl⟩ := hcs
      simp only [if_true] at hz
      refine ⟨(zs.take len).map fun n => UInt8.ofNat n.toNat, BS.of_seg ⟨hb, fun i hi => ?_⟩ (by simp; omega) hlc (by simp)⟩
      have hi2 : i < len := by simp at hi; omega
      have hc := hcell i (by omega)
      rw [Addr.add_at] at hc
      rw [hc]
      have hb := range_u8 hwz i
      have e : zs.getD i 0 = zs[i]'(by omega) := by simp [List.getD, List.getElem?_eq_getElem (show i < zs.length by omega)]
      rw [← List.getD_eq_getElem?_getD, e] at hb
      rw [e]
      have e2 : ((zs.take len).map fun n => UInt8.ofNat n.toNat).getD i 0 = UInt8.ofNat (zs[i]'(by omega)).toNat := by
        rw [List.getD_eq_getElem?_getD, List.getElem?_map, List.getElem?_take_of_lt hi2, List.getElem?_eq_getElem (show i < zs.length by omega)]; rfl
      rw [e2]
      simp only [bv, UInt8.toNat_ofNat']
      congr 2
      omega

set_option maxRecDepth 100000 in
theorem open_bl {W : World} {base : Nat} {v : Value} {d : DataW H} {p : List MemPlace} (hval : Value.okWide Tryz.prog W .any base 31 v) (h : DataW.Trod enc Tryz.prog W 0 (fun _ => true) true 31 v d p) : ∃ l : List Bool, BoolS W v l := by
  rcases okWide_at Tryz.underlying31 hval with rfl | ⟨b, o, len, cap, rfl, hb, hlc⟩
  · exact ⟨[], _, _, rfl, Nat.le_refl _, .inl rfl⟩
  · obtain ⟨fuel, hf⟩ := h
    rcases Go.Deep.open_bools Tryz.underlying31 Tryz.underlying4 (by kernel_rfl) hf with ⟨hcs, _⟩ | ⟨a, len', cap', Bf, hcs, _, hl, hm, _, hcell⟩
    · simp [Value.cells] at hcs
    · simp [Value.cells] at hcs
      obtain ⟨rfl, rfl, rfl⟩ := hcs
      refine ⟨(List.range len).map Bf, _, cap, by simp, by simpa using hlc, .inr ⟨b, o, rfl, hb, fun i hi => ?_⟩⟩
      have hi2 : i < len := by simpa using hi
      have hc := hcell i (by omega)
      rw [Addr.add_at] at hc
      rw [hc]
      simp [List.getD, List.getElem?_eq_getElem (show i < ((List.range len).map Bf).length by simpa using hi2)]
end
end Go.Proofs.YtekndndhgkdggaaGreatDoor

namespace Go.Proofs.YtekndndhgkdggaaGreatDoor
open Go.ChangeShapes Go.WideShapes Go.ChangeAt Go.RowKit

set_option maxRecDepth 100000 in
theorem readLaw_lifted (os : Os) (started : os.Started) (H : Type) (enc : TypeId × Value → H) :
    ReturnsInHanded {} Tryz.checked os 3 .any (fun w args => (Rows.fnReadSpec.pre enc Tryz.prog Tryz.f3 [] false w args ∧ laidMetH Tryz.prog Rows.fnReadRow.laid w) ∧ sizedMet enc Tryz.prog Tryz.f3 (OpenSpec.ofChange Rows.fnReadSpec) false w args)
      (Rows.fnReadSpec.post enc Tryz.prog Tryz.f3 false true false false) := by
  refine returnsInHanded_of_change_and (C := Tryz.checked) (X := fun w _ => laidMetH Tryz.prog Rows.fnReadRow.laid w) (fun _ _ _ hh h => h.of_heap hh) own started (by kernel_rfl) Tryz.func3
    (ChangeSpec.witness_shaped (enc := enc) (C := Tryz.checked) (os := os) (X := fun w _ => laidMetH Tryz.prog Rows.fnReadRow.laid w) false (World.laidAll Tryz.prog os Rows.fnReadRow.laid) #[.slice none 0 0, .string ⟨#[]⟩, .bool false] 8 (World.laidAll_os _ _ _)
      (World.shaped_of_ZipB (by kernel_rfl) (by kernel_rfl)) (by kernel_rfl) (by kernel_rfl) (by kernel_rfl)
      (by rw [MakeChecks.laidMetH_plain _ _ _ (by kernel_rfl)]; exact laidMet_laidAll _ (by kernel_rfl) (by kernel_rfl))) ?_
  intro W base args ds gs before hval0 hW _ _ hL _
  have hval : ∀ (j : Nat) t v, Tryz.f3.params[j]? = some t → args[j]? = some v → Value.okWide Tryz.prog W .any base t v := hval0
  have hW' := hW
  have hlt := hW.lt
  obtain ⟨p, q, hA0, hV0, rfl, hfz, hnd⟩ := hW
  have hA : DataW.TrodAll enc Tryz.prog W 0 (fun _ => true) true Tryz.f3.params.toList args.toList ds p := hA0
  have hV : DataW.TrodVars enc Tryz.prog W (fun _ => true) ["loop.example/pub-g03281/pub/multipart.ErrMessageTooLarge", "loop.example/pub-g03281/pub/textproto.errMessageTooLarge"] gs q := hV0
  rw [Tryz.params3] at hA hval
  obtain ⟨v0, v1, v2, d0, d1, d2, p0, p1, p2, rfl, rfl, rfl, h0, h1, h2⟩ := trodAll_three hA
  obtain ⟨g1, g2, rfl⟩ : ∃ g1 g2, gs = [g1, g2] := by
    match gs, hV with
    | [], hV => exact hV.elim
    | [_], hV => obtain ⟨_, _, _, _, _, _, _, _, _, _, hV, _⟩ := hV; exact hV.elim
    | [a, b], _ => exact ⟨a, b, rfl⟩
    | _ :: _ :: _ :: _, hV =>
      obtain ⟨_, _, _, _, _, _, _, _, _, _, hV, _⟩ := hV
      obtain ⟨_, _, _, _, _, _, _, _, _, _, hV, _⟩ := hV
      exact hV.elim
  obtain ⟨rem, hrem⟩ := open_bs (hval 0 22 v0 rfl rfl) h0
  obtain ⟨s, rfl⟩ := okWide_string Tryz.underlying9 (hval 1 9 v1 rfl rfl)
  obtain ⟨raw, rfl, hd2⟩ := open_bool Tryz.underlying4 (hval 2 4 v2 rfl rfl) h2
  obtain ⟨g, hg⟩ := glb_of_laid hL
  have hc := fnRead_any raw hg hrem (bd := s.data.toList)
  rw [bstr_of] at hc
  refine hc.mono fun e W' ⟨he, hch⟩ => ?_
  subst he
  have hb : Below W.heap.size W W' := hch.below
  refine ⟨_, rfl, _, _, _, [], p0 ++ (p1 ++ p2), q, hW', trodAll_mk1 (shut_bool Tryz.underlying4 _), ?_, Below.trodVars laidOut hb (by kernel_rfl) hV, hb.frame _, fun h => by cases h⟩
  have e1 : (Rows.fnReadSpec.fn H ([d0, d1, d2] ++ [g1, g2])).args = [d0, d1, d2] := rfl
  rw [e1, Tryz.params3]
  exact trodAll_mk3 (Below.trod laidOut (by kernel_rfl) (of_decide_eq_true (by kernel_rfl)) h0 hb (fun x hx => hlt x (by simp [hx]))) (Below.trod laidOut (by kernel_rfl) (of_decide_eq_true (by kernel_rfl)) h1 hb (fun x hx => hlt x (by simp [hx])))
    (Below.trod laidOut (by kernel_rfl) (of_decide_eq_true (by kernel_rfl)) h2 hb (fun x hx => hlt x (by simp [hx])))

theorem readLaw_said : Rows.FnReadSaid :=
  OpenClaim.holds_of_wide 3 Tryz.f3 rfl rfl rfl rfl rfl rfl rfl ⟨rfl, rfl, rfl, rfl, rfl⟩ rfl rfl rfl rfl rfl (by kernel_rfl) Tryz.func3 (by kernel_rfl)
    (of_decide_eq_true (by kernel_rfl)) (by unfold Func.isWrapper; first | (rw [if_pos (by decide +kernel)]; kernel_rfl) | (rw [if_neg (by decide +kernel)]; exact ⟨rfl, rfl⟩))
    (fun os started H enc _ => readLaw_lifted os started H enc)

theorem fnRead_card : Rows.FnReadCardSaid :=
  Claim7.holds_tied_plain_at .later [] _ _ _ _ readLaw_said (fun _ h => by cases h) (by kernel_rfl) (fun _ h => by cases h) fnRead_row_tie rfl ⟨rfl, rfl⟩ (by kernel_rfl) rfl
    (fun f fn hf hfn => by
      obtain rfl : f = 3 := Option.some.inj ((show Tryz.prog.funcNamed "loop.example/pub-g03281/laws.FnRead" = some 3 by kernel_rfl).symm.trans hf) |>.symm
      obtain rfl : fn = Tryz.f3 := (Option.some.inj (Tryz.func3.symm.trans hfn)).symm
      exact ⟨by kernel_rfl, fun j t ht => by
        rw [Tryz.params3] at ht
        have hm : t ∈ [22, 9, 4] := by simpa using Array.mem_of_getElem? ht
        have hall : ([22, 9, 4].all fun u => !Tryz.prog.wantsStandIn u) = true := by kernel_rfl
        exact (show Tryz.prog.wantsStandIn t = false by simpa using List.all_eq_true.1 hall t hm)⟩)
    (by kernel_rfl)
#print axioms fnRead_card
end Go.Proofs.YtekndndhgkdggaaGreatDoor
