/- The law FnSkipped, walked. From the row's hypotheses to the walks' words: what the listed variables hold; slices of bytes, of truths. laws.FnSkipped: for every input it returns true, and the input reads as it did; the card. Conditions: the listed package-level variables hold what the program's text lays (the card ties them). -/
import Derived.Test.YtekndndhgkdggaaGreatDoorM18
import Derived.Test.YtekndndhgkdggaaGreatDoorRows
import Derived.Test.YtekndndhgkdggaaGreatDoorM6
import Derived.Test.YtekndndhgkdggaaGreatDoorM5
import Derived.WalkKit
import Derived.ProofKit
import Derived.OpenShut
import Derived.OpenVars
import Derived.Stop.LaidErr
import Derived.Deep.Grids
import Derived.MakeChecks
import Derived.Test.YtekndndhgkdggaaGreatDoorCards
import Derived.Test.YtekndndhgkdggaaGreatDoorTie
import Derived.Lay
import Derived.SevenTiedAt
import Derived.Handed
namespace Go.Proofs.YtekndndhgkdggaaGreatDoor
open Go.RowKit

set_option maxRecDepth 100000 in
set_option maxHeartbeats 4000000 in
theorem fnSkipped_any {B : Nat} {g : Nat → Addr} {w : World} {v wv : Value} {rem bd : Bs} {which : List Bool} (hg : Glb B g w) (h : BS [] w v rem) (hw : BoolS w wv which) : Calls Tryz.prog 4 #[v, .string (bstr bd), wv] w (TruePost w) := by
  obtain ⟨a, c, rfl, hlc, _⟩ := id h
  obtain ⟨aw, cw, rfl, hwc, _⟩ := id hw
  have HG := Lib.hid (And.intro hg (And.intro h hw)); clear hg h hw
  by_cases a1 : rem.length > 2147483647
  · have t1 : decide ((rem.length : Int) > 2147483647) = true := decide_eq_true (by omega)
    clear a1
    go_enter Tryz.func4, Tryz.ntmps4
    go_wp2
    go_ret
    exact ⟨rfl, Chg.refl _ _⟩
  have t1 : decide ((rem.length : Int) > 2147483647) = false := decide_eq_false (by omega)
  by_cases a2 : bd.length > 2147483647
  · have t2 : decide ((bd.length : Int) > 2147483647) = true := decide_eq_true (by omega)
    clear a1 a2
    go_enter Tryz.func4, Tryz.ntmps4
    go_wp2
    go_ret
    exact ⟨rfl, Chg.refl _ _⟩
  have t2 : decide ((bd.length : Int) > 2147483647) = false := decide_eq_false (by omega)
  by_cases a3 : which.length > 2147483647
  · have t3 : decide ((which.length : Int) > 2147483647) = true := decide_eq_true (by omega)
    clear a1 a2 a3
    go_enter Tryz.func4, Tryz.ntmps4
    go_wp2
    go_ret
    exact ⟨rfl, Chg.refl _ _⟩
  have t3 : decide ((which.length : Int) > 2147483647) = false := decide_eq_false (by omega)
  clear a1 a2 a3
  by_cases b1 : rem.length > 3000
  · have q1 : decide ((rem.length : Int) > 3000) = true := decide_eq_true (by omega)
    clear b1
    go_enter Tryz.func4, Tryz.ntmps4
    go_wp2
    go_ret
    exact ⟨rfl, Chg.refl _ _⟩
  have q1 : decide ((rem.length : Int) > 3000) = false := decide_eq_false (by omega)
  by_cases b2 : bd.length > 100
  · have q2 : decide ((bd.length : Int) > 100) = true := decide_eq_true (by omega)
    clear b1 b2
    go_enter Tryz.func4, Tryz.ntmps4
    go_wp2
    go_ret
    exact ⟨rfl, Chg.refl _ _⟩
  have q2 : decide ((bd.length : Int) > 100) = false := decide_eq_false (by omega)
  by_cases b3 : which.length > 50
  · have q3 : decide ((which.length : Int) > 50) = true := decide_eq_true (by omega)
    clear b1 b2 b3
    go_enter Tryz.func4, Tryz.ntmps4
    go_wp2
    go_ret
    exact ⟨rfl, Chg.refl _ _⟩
  have q3 : decide ((which.length : Int) > 50) = false := decide_eq_false (by omega)
  obtain ⟨ps, how, hres⟩ := specB_raw bd which rem
  have hsp := Lib.hid (specRead_any (bd := bd) true HG.out.2.1 HG.out.2.2 (by omega) (by omega) (by omega))
  rw [hres] at hsp
  unfold SpecPost at hsp
  have HB := Lib.hid (And.intro b1 (And.intro b2 (And.intro b3 hres))); clear b1 b2 b3 hres
  go_enter Tryz.func4, Tryz.ntmps4
  go_wp2_with fail
  refine hsp.out.mono ?_
  rintro e w1 ⟨v1, rfl, hp1, hc1⟩
  obtain ⟨a1, c1, rfl, hac1, _⟩ := id hp1
  have hsk := Lib.hid (skipped_any (HG.out.1.chg hc1 (by simp)) (HG.out.2.1.chg hc1) (HG.out.2.2.below hc1) (by have := HB.out.1; omega) (by have := HB.out.2.1; omega) (by have := HB.out.2.2.1; omega) HB.out.2.2.2)
  have H1 := Lib.hid (And.intro hp1 hc1); clear hp1 hc1 hsp
  unfold ImPost at hsk
  go_wp2_with fail
  refine hsk.out.mono ?_
  rintro e w2 ⟨v2, rfl, hp2, hc2⟩
  obtain ⟨a2, c2, rfl, hac2, _⟩ := id hp2
  have hsm := Lib.hid (same_any hp2 (H1.out.1.chg hc2) (specB_small HB.out.2.2.2 (by have := HB.out.1; omega)))
  have hcw := Lib.hid (H1.out.2.trans hc2)
  clear hp2 hc2 hsk
  unfold TruePost at hsm
  go_wp2_with (first
    | (go_at_call 7; refine hsm.out.mono ?_; rintro e w3 ⟨rfl, hc3⟩)
    | (go_at_call 8; refine (alive_any ((HG.out.1.chg hcw.out (by simp)).chg hc3 (by simp))).mono ?_; rintro e w4 ⟨rfl, hc4⟩))
  go_ret
  exact ⟨rfl, (hcw.out.trans hc3).trans hc4⟩
end Go.Proofs.YtekndndhgkdggaaGreatDoor

namespace Go.Proofs.YtekndndhgkdggaaGreatDoor
open Go.ChangeShapes Go.WideShapes Go.ChangeAt Go.RowKit

theorem own : ownKnob Tryz.prog.godebug = none := by kernel_rfl
theorem laidOut : laidOutB Tryz.prog = true := by kernel_rfl
theorem star118 : "*" ++ "errors.errorString" = "*errors.errorString" := by decide
theorem row118 (u : TypeId) (h : Tryz.prog.typeName? 3 u = some "*errors.errorString") : u = 118 :=
  typeName_ptr_named (nm := "errors.errorString") (by rw [star118]; kernel_rfl) (by kernel_rfl) (by decide) u (by rw [star118]; exact h)

set_option maxRecDepth 100000 in
theorem laid_one {n : String} {text : List UInt8} {r : List (String × DataW Unit)} {W : World} {g : Nat} (h : laidMet Tryz.prog ((n, .iface "*errors.errorString" (.ptr (.agg [.lit (.string text)]))) :: r) W)
    (hg : Tryz.prog.globalNamed n = some g) (ht : (Tryz.prog.globals[g]?).map (·.type) = some 54) :
    ∃ (a : Addr) (cs : Array Value) (T : TypeId), W.cell? ⟨g, 0, none⟩ = some (erv a) ∧ W.cell? a = some (.string (bstr text)) ∧ Blk W a.block cs T := by
  obtain ⟨ps, ⟨g0', t0', cs0, f0, p0, q0, hg0', ht0', hv0, hd0, _, e0⟩, hnd, hrows⟩ := h
  obtain rfl := Option.some.inj (hg.symm.trans hg0')
  obtain rfl := Option.some.inj (ht.symm.trans ht0')
  subst e0
  obtain ⟨l0⟩ := cs0
  have ok0 : ∀ u v, l0 = [.iface u v] → Value.okWide Tryz.prog W .any 0 u v := fun u v e => by
    subst e
    exact (hrows g 0 (by simp [MemPlace.row])).2 u v (by simpa using World.var?_cell hg0' hv0 0)
  obtain ⟨a0, s0, rfl, hc0, hs0, hz0, rfl⟩ := errorString_of_trod (te := 120) (ts := 9) (Tryz.underlying54) row118 Tryz.underlying118 Tryz.underlying120 rfl rfl Tryz.underlying9 (by kernel_rfl) (by kernel_rfl) hd0 ok0
  obtain ⟨c0, t0, hb0⟩ := (hrows a0.block a0.off (by simp [MemPlace.row])).1
  refine ⟨a0, c0, t0, by simpa using World.var?_cell hg0' hv0 0, ?_, hb0⟩
  rw [hc0, ← hs0, bstr_of]

set_option maxRecDepth 100000 in
/-- WHAT THE LIST GIVES -/
theorem glb_of_laid {W : World} (h : laidMetH Tryz.prog Rows.fnSkippedRow.laid W) : ∃ g, Glb W.heap.size g W := by
  rw [MakeChecks.laidMetH_plain _ _ _ (by kernel_rfl)] at h
  have h1 := laidMet.tail h
  obtain ⟨a0, c0, t0, e0, s0, b0⟩ := laid_one h1 (by kernel_rfl : Tryz.prog.globalNamed "io.EOF" = some 0) (by kernel_rfl)
  have h2 := laidMet.tail h1
  obtain ⟨a1, c1, t1, e1, s1, b1⟩ := laid_one h2 (by kernel_rfl : Tryz.prog.globalNamed "io.ErrUnexpectedEOF" = some 1) (by kernel_rfl)
  have h3 := laidMet.tail h2
  obtain ⟨a4, c4, t4, e4, s4, b4⟩ := laid_one h3 (by kernel_rfl : Tryz.prog.globalNamed "io.ErrNoProgress" = some 4) (by kernel_rfl)
  have h6 := laidMet.tail (laidMet.tail (laidMet.tail h3))
  obtain ⟨a14, c14, t14, e14, s14, b14⟩ := laid_one h6 (by kernel_rfl : Tryz.prog.globalNamed "bufio.ErrInvalidUnreadByte" = some 14) (by kernel_rfl)
  have h7 := laidMet.tail h6
  obtain ⟨a2, c2, t2, e2, s2, b2⟩ := laid_one h7 (by kernel_rfl : Tryz.prog.globalNamed "bufio.ErrBufferFull" = some 2) (by kernel_rfl)
  have h8 := laidMet.tail h7
  obtain ⟨a13, c13, t13, e13, s13, b13⟩ := laid_one h8 (by kernel_rfl : Tryz.prog.globalNamed "bufio.ErrNegativeCount" = some 13) (by kernel_rfl)
  have h9 := laidMet.tail h8
  obtain ⟨a3, c3, t3, e3, s3, b3⟩ := laid_one h9 (by kernel_rfl : Tryz.prog.globalNamed "bufio.errNegativeRead" = some 3) (by kernel_rfl)
  have h10 := laidMet.tail h9
  obtain ⟨a12, c12, t12, e12, s12, b12⟩ := laid_one h10 (by kernel_rfl : Tryz.prog.globalNamed "loop.example/pub-g03281/pub/textproto.errMessageTooLarge" = some 12) (by kernel_rfl)
  have h11 := laidMet.tail h10
  obtain ⟨a5, c5, t5, e5, s5, b5⟩ := laid_one h11 (by kernel_rfl : Tryz.prog.globalNamed "loop.example/pub-g03281/pub/multipart.ErrMessageTooLarge" = some 5) (by kernel_rfl)
  clear h h1 h2 h3 h6 h7 h8 h9 h10 h11
  have hlo : 15 ≤ W.heap.size := by
    rcases Nat.lt_or_ge 14 W.heap.size with h | h
    · exact h
    · simp [World.cell?, Array.getElem?_eq_none h] at e14
  have hcase : ∀ i : Nat, i < 6 ∨ (12 ≤ i ∧ i < 15) → i = 0 ∨ i = 1 ∨ i = 2 ∨ i = 3 ∨ i = 4 ∨ i = 5 ∨ i = 12 ∨ i = 13 ∨ i = 14 := fun i hi => by omega
  have hne : ∀ {a b : Addr} {s t : Bs}, W.cell? a = some (.string (bstr s)) → W.cell? b = some (.string (bstr t)) → s ≠ t → a ≠ b := fun {a b s t} ha hb hst e => by
    rw [e, hb] at ha
    exact hst (bstr_inj (by simpa using ha.symm))
  refine ⟨fun i => match i with | 0 => a0 | 1 => a1 | 2 => a2 | 3 => a3 | 4 => a4 | 5 => a5 | 12 => a12 | 13 => a13 | _ => a14, ⟨Nat.le_refl _, hlo, fun i hi => ?_, fun i hi => ?_, s12, s0, ?_⟩⟩
  · rcases hcase i hi with rfl | rfl | rfl | rfl | rfl | rfl | rfl | rfl | rfl
    · exact ⟨e0, b0.lt⟩
    · exact ⟨e1, b1.lt⟩
    · exact ⟨e2, b2.lt⟩
    · exact ⟨e3, b3.lt⟩
    · exact ⟨e4, b4.lt⟩
    · exact ⟨e5, b5.lt⟩
    · exact ⟨e12, b12.lt⟩
    · exact ⟨e13, b13.lt⟩
    · exact ⟨e14, b14.lt⟩
  · rcases hcase i hi with rfl | rfl | rfl | rfl | rfl | rfl | rfl | rfl | rfl
    · exact ⟨_, _, b0⟩
    · exact ⟨_, _, b1⟩
    · exact ⟨_, _, b2⟩
    · exact ⟨_, _, b3⟩
    · exact ⟨_, _, b4⟩
    · exact ⟨_, _, b5⟩
    · exact ⟨_, _, b12⟩
    · exact ⟨_, _, b13⟩
    · exact ⟨_, _, b14⟩
  · exact ⟨hne s0 s1 (by decide), hne s0 s12 (by decide), hne s0 s5 (by decide), hne s0 s2 (by decide)⟩

set_option maxRecDepth 100000 in
/-- a slice as it comes in -/
theorem okWide_at {W : World} {base : Nat} {t e : TypeId} {v : Value} (ht : Tryz.prog.underlying t = some (.slice e)) (h : Value.okWide Tryz.prog W .any base t v) :
    v = .slice none 0 0 ∨ ∃ b o len cap, v = .slice (some ⟨b, o, none⟩) len cap ∧ b < W.heap.size ∧ len ≤ cap := by
  simp only [Value.okWide, ht, Cell.okWide] at h
  cases v with
  | slice a len cap =>
    cases a with
    | none =>
      left
      match len, cap, h with
      | 0, 0, _ => rfl
      | 0, n + 1, h => simp [Cell.ok, ht] at h
      | n + 1, m, h => simp [Cell.ok, ht] at h
    | some a =>
      right
      simp only [Cell.ok, ht] at h
      obtain ⟨h1, _, _, h2, row, cells, h3, _⟩ := h
      obtain ⟨b, o, sp⟩ := a
      simp only at h2 h3
      subst h2
      refine ⟨b, o, len, cap, rfl, ?_, h1⟩
      rcases Nat.lt_or_ge b W.heap.size with h | h
      · exact h
      · simp [World.shape?, Array.getElem?_eq_none h] at h3
  | _ => simp_all [Cell.ok]

section
variable {H : Type} {enc : TypeId × Value → H}

set_option maxRecDepth 100000 in
theorem open_bs {W : World} {base : Nat} {v : Value} {d : DataW H} {p : List MemPlace} (hval : Value.okWide Tryz.prog W .any base 22 v) (h : DataW.Trod enc Tryz.prog W 0 (fun _ => true) true 22 v d p) : ∃ l : Bs, BS [] W v l := by
  rcases okWide_at Tryz.underlying22 hval with rfl | ⟨b, o, len, cap, rfl, hb, hlc⟩
  · exact ⟨[], BS.nil _ _⟩
  · obtain ⟨fuel, hf⟩ := h
    rcases open_ints Tryz.underlying22 Tryz.underlying5 (by kernel_rfl) hf with ⟨hcs, _⟩ | ⟨a, len', cap', zs, hcs, _, hl, hm, hz, _, hcell, hwz⟩
    · simp [Value.cells] at hcs
    · simp [Value.cells] at hcs
      obtain ⟨rfl, rfl, rfl⟩ := hcs
      simp only [if_true] at hz
      refine ⟨(zs.take len).map fun n => UInt8.ofNat n.toNat, BS.of_seg ⟨hb, fun i hi => ?_⟩ (by simp; omega) hlc (by simp)⟩
      have hi2 : i < len := by simp at hi; omega
      have hc := hcell i (by omega)
      rw [Addr.add_at] at hc
      rw [hc]
      have hb := range_u8 hwz i
      have e : zs.getD i 0 = zs[i]'(by omega) := by simp [List.getD, List.getElem?_eq_getElem (show i < zs.length by omega)]
      rw [← List.getD_eq_getElem?_getD, e] at hb
      rw [e]
      have e2 : ((zs.take len).map fun n => UInt8.ofNat n.toNat).getD i 0 = UInt8.ofNat (zs[i]'(by omega)).toNat := by
        rw [List.getD_eq_getElem?_getD, List.getElem?_map, List.getElem?_take_of_lt hi2, List.getElem?_eq_getElem (show i < zs.length by omega)]; rfl
      rw [e2]
      simp only [bv, UInt8.toNat_ofNat']
      congr 2
      omega

set_option maxRecDepth 100000 in
theorem open_bl {W : World} {base : Nat} {v : Value} {d : DataW H} {p : List MemPlace} (hval : Value.okWide Tryz.prog W .any base 31 v) (h : DataW.Trod enc Tryz.prog W 0 (fun _ => true) true 31 v d p) : ∃ l : List Bool, BoolS W v l := by
  rcases okWide_at Tryz.underlying31 hval with rfl | ⟨b, o, len, cap, rfl, hb, hlc⟩
  · exact ⟨[], _, _, rfl, Nat.le_refl _, .inl rfl⟩
  · obtain ⟨fuel, hf⟩ := h
    rcases Go.Deep.open_bools Tryz.underlying31 Tryz.underlying4 (by kernel_rfl) hf with ⟨hcs, _⟩ | ⟨a, len', cap', Bf, hcs, _, hl, hm, _, hcell⟩
    · simp [Value.cells] at hcs
    · simp [Value.cells] at hcs
      obtain ⟨rfl, rfl, rfl⟩ := hcs
      refine ⟨(List.range len).map Bf, _, cap, by simp, by simpa using hlc, .inr ⟨b, o, rfl, hb, fun i hi => ?_⟩⟩
      have hi2 : i < len := by simpa using hi
      have hc := hcell i (by omega)
      rw [Addr.add_at] at hc
      rw [hc]
      simp [List.getD, List.getElem?_eq_getElem (show i < ((List.range len).map Bf).length by simpa using hi2)]
end
end Go.Proofs.YtekndndhgkdggaaGreatDoor

namespace Go.Proofs.YtekndndhgkdggaaGreatDoor
open Go.ChangeShapes Go.WideShapes Go.ChangeAt Go.RowKit

set_option maxRecDepth 100000 in
theorem skipped_lifted (os : Os) (started : os.Started) (H : Type) (enc : TypeId × Value → H) :
    ReturnsInHanded {} Tryz.checked os 4 .any (fun w args => (Rows.fnSkippedSpec.pre enc Tryz.prog Tryz.f4 [] false w args ∧ laidMetH Tryz.prog Rows.fnSkippedRow.laid w) ∧ sizedMet enc Tryz.prog Tryz.f4 (OpenSpec.ofChange Rows.fnSkippedSpec) false w args)
      (Rows.fnSkippedSpec.post enc Tryz.prog Tryz.f4 false true false false) := by
  refine returnsInHanded_of_change_and (C := Tryz.checked) (X := fun w _ => laidMetH Tryz.prog Rows.fnSkippedRow.laid w) (fun _ _ _ hh h => h.of_heap hh) own started (by kernel_rfl) Tryz.func4
    (ChangeSpec.witness_shaped (enc := enc) (C := Tryz.checked) (os := os) (X := fun w _ => laidMetH Tryz.prog Rows.fnSkippedRow.laid w) false (World.laidAll Tryz.prog os Rows.fnSkippedRow.laid) #[.slice none 0 0, .string ⟨#[]⟩, .slice none 0 0] 8 (World.laidAll_os _ _ _)
      (World.shaped_of_ZipB (by kernel_rfl) (by kernel_rfl)) (by kernel_rfl) (by kernel_rfl) (by kernel_rfl)
      (by rw [MakeChecks.laidMetH_plain _ _ _ (by kernel_rfl)]; exact laidMet_laidAll _ (by kernel_rfl) (by kernel_rfl))) ?_
  intro W base args ds gs before hval0 hW _ _ hL _
  have hval : ∀ (j : Nat) t v, Tryz.f4.params[j]? = some t → args[j]? = some v → Value.okWide Tryz.prog W .any base t v := hval0
  have hW' := hW
  have hlt := hW.lt
  obtain ⟨p, q, hA0, hV0, rfl, hfz, hnd⟩ := hW
  have hA : DataW.TrodAll enc Tryz.prog W 0 (fun _ => true) true Tryz.f4.params.toList args.toList ds p := hA0
  have hV : DataW.TrodVars enc Tryz.prog W (fun _ => true) ["loop.example/pub-g03281/pub/multipart.ErrMessageTooLarge", "loop.example/pub-g03281/pub/textproto.errMessageTooLarge"] gs q := hV0
  rw [Tryz.params4] at hA hval
  obtain ⟨v0, v1, v2, d0, d1, d2, p0, p1, p2, rfl, rfl, rfl, h0, h1, h2⟩ := trodAll_three hA
  obtain ⟨g1, g2, rfl⟩ : ∃ g1 g2, gs = [g1, g2] := by
    match gs, hV with
    | [], hV => exact hV.elim
    | [_], hV => obtain ⟨_, _, _, _, _, _, _, _, _, _, hV, _⟩ := hV; exact hV.elim
    | [a, b], _ => exact ⟨a, b, rfl⟩
    | _ :: _ :: _ :: _, hV =>
      obtain ⟨_, _, _, _, _, _, _, _, _, _, hV, _⟩ := hV
      obtain ⟨_, _, _, _, _, _, _, _, _, _, hV, _⟩ := hV
      exact hV.elim
  obtain ⟨rem, hrem⟩ := open_bs (hval 0 22 v0 rfl rfl) h0
  obtain ⟨s, rfl⟩ := okWide_string Tryz.underlying9 (hval 1 9 v1 rfl rfl)
  obtain ⟨which, hwh⟩ := open_bl (hval 2 31 v2 rfl rfl) h2
  obtain ⟨g, hg⟩ := glb_of_laid hL
  have hc := fnSkipped_any hg hrem (bd := s.data.toList) hwh
  rw [bstr_of] at hc
  refine hc.mono fun e W' ⟨he, hch⟩ => ?_
  subst he
  have hb : Below W.heap.size W W' := hch.below
  refine ⟨_, rfl, _, _, _, [], p0 ++ (p1 ++ p2), q, hW', trodAll_mk1 (shut_bool Tryz.underlying4 _), ?_, Below.trodVars laidOut hb (by kernel_rfl) hV, hb.frame _, fun h => by cases h⟩
  have e1 : (Rows.fnSkippedSpec.fn H ([d0, d1, d2] ++ [g1, g2])).args = [d0, d1, d2] := rfl
  rw [e1, Tryz.params4]
  exact trodAll_mk3 (Below.trod laidOut (by kernel_rfl) (of_decide_eq_true (by kernel_rfl)) h0 hb (fun x hx => hlt x (by simp [hx]))) (Below.trod laidOut (by kernel_rfl) (of_decide_eq_true (by kernel_rfl)) h1 hb (fun x hx => hlt x (by simp [hx])))
    (Below.trod laidOut (by kernel_rfl) (of_decide_eq_true (by kernel_rfl)) h2 hb (fun x hx => hlt x (by simp [hx])))

theorem skipped_said : Rows.FnSkippedSaid :=
  OpenClaim.holds_of_wide 4 Tryz.f4 rfl rfl rfl rfl rfl rfl rfl ⟨rfl, rfl, rfl, rfl, rfl⟩ rfl rfl rfl rfl rfl (by kernel_rfl) Tryz.func4 (by kernel_rfl)
    (of_decide_eq_true (by kernel_rfl)) (by unfold Func.isWrapper; first | (rw [if_pos (by decide +kernel)]; kernel_rfl) | (rw [if_neg (by decide +kernel)]; exact ⟨rfl, rfl⟩))
    (fun os started H enc _ => skipped_lifted os started H enc)

theorem fnSkipped_card : Rows.FnSkippedCardSaid :=
  Claim7.holds_tied_plain_at .later [] _ _ _ _ skipped_said (fun _ h => by cases h) (by kernel_rfl) (fun _ h => by cases h) fnSkipped_row_tie rfl ⟨rfl, rfl⟩ (by kernel_rfl) rfl
    (fun f fn hf hfn => by
      obtain rfl : f = 4 := Option.some.inj ((show Tryz.prog.funcNamed "loop.example/pub-g03281/laws.FnSkipped" = some 4 by kernel_rfl).symm.trans hf) |>.symm
      obtain rfl : fn = Tryz.f4 := (Option.some.inj (Tryz.func4.symm.trans hfn)).symm
      exact ⟨by kernel_rfl, fun j t ht => by
        rw [Tryz.params4] at ht
        have hm : t ∈ [22, 9, 31] := by simpa using Array.mem_of_getElem? ht
        have hall : ([22, 9, 31].all fun u => !Tryz.prog.wantsStandIn u) = true := by kernel_rfl
        exact (show Tryz.prog.wantsStandIn t = false by simpa using List.all_eq_true.1 hall t hm)⟩)
    (by kernel_rfl)
#print axioms fnSkipped_card
end Go.Proofs.YtekndndhgkdggaaGreatDoor
