/- What holds between two lines of a header. -/
import Derived.Test.YtekndndhgkdggaaGreatDoorR13
import Derived.Test.YtekndndhgkdggaaGreatDoorR10
namespace Go.Proofs.YtekndndhgkdggaaGreatDoor
open Go.RowKit

theorem Blk.uniq {w : World} {b : Nat} {cs cs2 : Array Value} {T T2 : TypeId} (h : Blk w b cs T) (h2 : Blk w b cs2 T2) : cs = cs2 ∧ T = T2 := by
  unfold Blk at h h2
  rw [h] at h2
  simp at h2
  exact h2

theorem held_of_seg {w : World} {b o : Nat} {T : TypeId} {cs : Array Value} {l : Bs} (hb : Blk w b cs T) (hs : Seg w b o l) : Held w b o T cs l :=
  ⟨cs, hb, rfl, fun i hi => by rw [← hb.cell]; exact hs.cell i hi, fun _ _ => rfl⟩

/-- What lies in the buffer ahead of what is not read yet may be written. -/
theorem InS.under {B : Nat} {g : Nat → Addr} {h : Hs} {w w' : World} {r : Nat} {rem : Bs} {e : Value} {lb lr : Int} {o : Nat} {T : TypeId} {cs : Array Value} {l : Bs} (hs : InS B g h w r rem e lb lr) (hc : Chg [h.U] w w') (hb : Blk w h.U cs T) (hh : Held w' h.U o T cs l) (hol : o + l.length ≤ r) : InS B g h w' r rem e lb lr := by
  have ho := hs.ok
  have n1 : h.RD ∉ [h.U] := by have := ho.n14; simp; omega
  have n2 : h.ST ∉ [h.U] := by have := ho.n24; simp; omega
  have n3 : h.BR ∉ [h.U] := by have := ho.n34; simp; omega
  obtain ⟨cs0, T0, hu, hsz, hin⟩ := hs.u
  obtain ⟨rfl, rfl⟩ := hu.uniq hb
  obtain ⟨cs', hb', hsz', _, hout⟩ := hh
  refine ⟨hs.gl.chg hc (fun x hx => by have := ho.b4; simp at hx; omega), ho, hs.br.chg hc n3, hs.st.imp fun s k => ⟨k.1.chg hc n2, k.2⟩, hs.rd.imp fun a k => k.imp fun n k => k.imp fun c k => k.imp fun p k => ⟨k.1.chg hc n1, k.2⟩, ⟨cs', T0, hb', by omega, fun i hi => ?_⟩, hs.lt⟩
  rw [hout (r + i) (.inr (by omega))]
  exact hin i hi

/-- An owned row whose beginning was written anew. -/
theorem own_held {w w' : World} {base n c b : Nat} {T : TypeId} {cs : Array Value} {l l' : Bs} (ho : w.ownsRow base 5 1 (.slice (some ⟨b, 0, none⟩) n c) n (l.map bv)) (hb : Blk w b cs T) (hh : Held w' b 0 T cs l') (hl : l'.length ≤ n) :
    w'.ownsRow base 5 1 (.slice (some ⟨b, 0, none⟩) n c) n ((l' ++ l.drop l'.length).map bv) := by
  obtain ⟨hlen, hor⟩ := ho
  have hn : l.length = n := by simpa using hlen
  refine ⟨by simp; omega, ?_⟩
  rcases hor with ⟨hv, _⟩ | ⟨g, cap, cur, hv, hg, hhp, hnc, hcm, hsz, htk⟩
  · cases hv
  · cases hv
    have hbb : Blk w b cur 5 := hhp
    obtain ⟨rfl, rfl⟩ := hbb.uniq hb
    obtain ⟨cs', hb', hsz', hin, hout⟩ := hh
    refine .inr ⟨b, c, cs', rfl, hg, hb', hnc, hcm, by omega, ?_⟩
    apply List.ext_getElem?
    intro i
    by_cases hi : i < n
    · rw [List.getElem?_take_of_lt (by omega), Array.getElem?_toList]
      by_cases hi2 : i < l'.length
      · have := hin i hi2
        rw [Nat.zero_add] at this
        rw [this, List.getElem?_map, List.getElem?_append_left hi2]
        simp [List.getD, List.getElem?_eq_getElem hi2]
      · rw [hout i (.inr (by omega)), List.getElem?_map, List.getElem?_append_right (by omega), List.getElem?_drop]
        have h2 : (cur.toList.take (n * 1))[i]? = (l.map bv)[i]? := by rw [htk]
        rw [List.getElem?_take_of_lt (by omega), Array.getElem?_toList, List.getElem?_map] at h2
        rw [h2, show l'.length + (i - l'.length) = i from by omega]
    · rw [List.getElem?_eq_none (by simp; omega), List.getElem?_eq_none (by simp; omega)]

/-- how much the map's reading has to say of the row that elements are cut from -/
def StS (SB ns : Nat) (w : World) (v : Value) : Prop :=
  ∃ a m, v = .slice a m m ∧ m ≤ 1000 ∧ (0 < m → a = some ⟨SB, ns, none⟩ ∧ ∃ cs, Blk w SB cs 9 ∧ cs.size = ns + m)

theorem StS.chg {S : List Nat} {SB ns : Nat} {w w' : World} {v : Value} (h : StS SB ns w v) (hc : Chg S w w') (hn : SB ∉ S) : StS SB ns w' v := by
  obtain ⟨a, m, hv, hm, h⟩ := h
  exact ⟨a, m, hv, hm, fun h0 => ⟨(h h0).1, (h h0).2.imp fun cs k => ⟨k.1.chg hc hn, k.2⟩⟩⟩

structure HL (B : Nat) (g : Nat → Addr) (h : Hs) (TP SB : Nat) (w wr : World) (M n : Nat) (gs : List GF) (ns : Nat) (sv' bz : Value) (nz : Nat) (lz rem : Bs) : Prop where
  ct : CtS B g h TP w.heap.size [] w wr bz nz lz rem
  mp : MapS w.heap.size SB ns wr M n gs
  st : StS SB ns wr sv'
  bf : ∀ k, bz.ownBlock = some k → k ≠ M ∧ k ≠ SB ∧ ∀ f ∈ gs, f.2.2.ownBlock ≠ some k
  sb : SB ∉ TP :: h.all ∧ SB < wr.heap.size ∧ (SB < w.heap.size → ns = 0 ∧ ∃ a, sv' = .slice a 0 0)

/-- what does not turn between -/
theorem HL.far {B : Nat} {g : Nat → Addr} {h : Hs} {TP SB : Nat} {w wr : World} {M n : Nat} {gs : List GF} {ns : Nat} {sv' bz : Value} {nz : Nat} {lz rem : Bs} (H : HL B g h TP SB w wr M n gs ns sv' bz nz lz rem) (F : CtF B h TP w.heap.size w) :
    M ∉ TP :: (h.all ++ bz.ownBlock.toList) ∧ SB ∉ TP :: (h.all ++ bz.ownBlock.toList) ∧ ∀ f ∈ gs, ∀ k, f.2.2.ownBlock = some k → k ∉ TP :: (h.all ++ bz.ownBlock.toList) := by
  have hmb := H.mp.mb.1
  have htb := F.tb
  have hal := F.hb
  refine ⟨fun hm => ?_, fun hm => ?_, fun f hf k hk hm => ?_⟩
  · rcases List.mem_cons.1 hm with rfl | hm
    · omega
    · rcases List.mem_append.1 hm with hm | hm
      · have := hal _ hm; omega
      · simp at hm; exact (H.bf _ hm).1 rfl
  · rcases List.mem_cons.1 hm with e | hm
    · exact H.sb.1 (by rw [e]; simp)
    · rcases List.mem_append.1 hm with hm | hm
      · exact H.sb.1 (by simp [hm])
      · simp at hm; exact (H.bf _ hm).2.1 rfl
  · rcases H.mp.blk f hf k hk with rfl | ⟨h1, h2⟩
    · rcases List.mem_cons.1 hm with e | hm
      · exact H.sb.1 (by rw [e]; simp)
      · rcases List.mem_append.1 hm with hm | hm
        · exact H.sb.1 (by simp [hm])
        · simp at hm; exact (H.bf _ hm).2.1 rfl
    · rcases List.mem_cons.1 hm with e | hm
      · omega
      · rcases List.mem_append.1 hm with hm | hm
        · have := hal _ hm; omega
        · simp at hm; exact (H.bf _ hm).2.2 f hf hk

/-- a line that goes on has been read -/
theorem HL.line {B : Nat} {g : Nat → Addr} {h : Hs} {TP SB : Nat} {w wr wy : World} {M n : Nat} {gs : List GF} {ns : Nat} {sv' bz b' : Value} {nz n' : Nat} {lz rem l' rem' : Bs} (H : HL B g h TP SB w wr M n gs ns sv' bz nz lz rem) (F : CtF B h TP w.heap.size w)
    (hc : CtS B g h TP w.heap.size bz.ownBlock.toList wr wy b' n' l' rem') : HL B g h TP SB w wy M n gs ns sv' b' n' l' rem' := by
  obtain ⟨f1, f2, f3⟩ := H.far F
  have hch := hc.chg
  have hsz := H.ct.chg.size
  have hloc : ∀ k, b'.ownBlock = some k → bz.ownBlock = some k ∨ wr.heap.size ≤ k := fun k hk => (hc.loc k hk).imp (by simp) id
  refine ⟨⟨hc.ins, hc.tp, hc.own, H.ct.chg.thn hch ?_, ?_⟩, H.mp.chg hch f1 f3, H.st.chg hch f2, ?_, H.sb.1, Nat.lt_of_lt_of_le H.sb.2.1 hch.size, H.sb.2.2⟩
  · intro x hx
    rcases List.mem_cons.1 hx with rfl | hx
    · exact .inl (by simp)
    · rcases List.mem_append.1 hx with hx | hx
      · exact .inl (by simp [hx])
      · simp at hx
        rcases H.ct.loc x hx with h1 | h1
        · cases h1
        · exact .inr h1
  · intro k hk
    rcases hloc k hk with h1 | h1
    · exact H.ct.loc k h1
    · right; omega
  · intro k hk
    rcases hloc k hk with h1 | h1
    · exact H.bf k h1
    · have hM := H.mp.map.lt
      have hS := H.sb.2.1
      refine ⟨by omega, by omega, fun f hf e => ?_⟩
      rcases H.mp.blk f hf k e with rfl | ⟨_, h2⟩
      · omega
      · omega

theorem HL.moved {B : Nat} {g : Nat → Addr} {h : Hs} {TP SB : Nat} {w wr : World} {M n : Nat} {gs : List GF} {ns : Nat} {sv' bz : Value} {nz : Nat} {lz rem : Bs} (H : HL B g h TP SB w wr M n gs ns sv' bz nz lz rem) (F : CtF B h TP w.heap.size w) {S : List Nat} {w2 : World} {lz' : Bs} (hc : Chg S wr w2) (hS : ∀ x ∈ S, x ∈ h.all ∨ w.heap.size ≤ x ∨ wr.heap.size ≤ x)
    (hi : ∃ r lb lr, InS B g h w2 r rem .nilIface lb lr) (ho : w2.ownsRow w.heap.size 5 1 bz nz (lz'.map bv)) (hM : M ∉ S) (hSB : SB ∉ S) (hf : ∀ f ∈ gs, ∀ k, f.2.2.ownBlock = some k → k ∉ S) (hT : TP ∉ S) : HL B g h TP SB w w2 M n gs ns sv' bz nz lz' rem := by
  have hsz := H.ct.chg.size
  refine ⟨⟨hi, H.ct.tp.chg hc hT, ho, H.ct.chg.thn hc (fun x hx => ?_), H.ct.loc⟩, H.mp.chg hc hM hf, H.st.chg hc hSB, H.bf, H.sb.1, Nat.lt_of_lt_of_le H.sb.2.1 hc.size, H.sb.2.2⟩
  rcases hS x hx with h1 | h1 | h1
  · exact .inl (by simp [h1])
  · exact .inr h1
  · right; omega

theorem HL.quiet {B : Nat} {g : Nat → Addr} {h : Hs} {TP SB : Nat} {w wr : World} {M n : Nat} {gs : List GF} {ns : Nat} {sv' bz : Value} {nz : Nat} {lz rem : Bs} (H : HL B g h TP SB w wr M n gs ns sv' bz nz lz rem) (F : CtF B h TP w.heap.size w) {w2 : World} (hc : Chg [] wr w2) : HL B g h TP SB w w2 M n gs ns sv' bz nz lz rem :=
  H.moved F hc (by simp) (H.ct.ins.imp fun r k => k.imp fun lb k => k.imp fun lr k => k.draw hc (by simp)) (own_chg H.ct.own hc (by simp)) (by simp) (by simp) (by simp) (by simp)

/-- where a line that goes on lies: it may be written there -/
def KvAt (B : Nat) (g : Nat → Addr) (h : Hs) (TP SB : Nat) (w wy : World) (M n : Nat) (gs : List GF) (ns : Nat) (sv' bz : Value) (nz : Nat) (rem : Bs) (v : Value) (kv : Bs) : Prop :=
  ∃ b o c cs T, v = .slice (some ⟨b, o, none⟩) kv.length c ∧ kv.length ≤ c ∧ Blk wy b cs T ∧ Seg wy b o kv ∧ ∀ w2 l', Chg [b] wy w2 → Held w2 b o T cs l' → l'.length ≤ kv.length → ∃ lz', HL B g h TP SB w w2 M n gs ns sv' bz nz lz' rem

theorem HL.kv {B : Nat} {g : Nat → Addr} {h : Hs} {TP SB : Nat} {w wr : World} {M n : Nat} {gs : List GF} {ns : Nat} {sv' bz : Value} {nz : Nat} {lz rem : Bs} (H : HL B g h TP SB w wr M n gs ns sv' bz nz lz rem) (F : CtF B h TP w.heap.size w) {r : Nat} {lb lr : Int} {v : Value} {kv : Bs} (hin : InS B g h wr r rem .nilIface lb lr) (hv : LB h.U 0 r wr v kv ∨ (v = bz ∧ lz = kv)) (hne : kv ≠ []) : KvAt B g h TP SB w wr M n gs ns sv' bz nz rem v kv := by
  have hpos := List.length_pos_iff.2 hne
  obtain ⟨f1, f2, f3⟩ := H.far F
  rcases hv with ⟨o, c, rfl, hlc, hseg, _, hor⟩ | ⟨rfl, rfl⟩
  · obtain ⟨cs, T, hb, _, _⟩ := hin.u
    have hU : h.U ∈ h.all := by unfold Hs.all; simp
    refine ⟨h.U, o, c, cs, T, rfl, hlc, hb, hseg, fun w2 l' hc hh hl => ⟨lz, H.moved F hc (by intro x hx; simp at hx; subst hx; exact .inl hU) ⟨r, lb, lr, hin.under hc hb hh (by omega)⟩ ?_ ?_ ?_ ?_ ?_⟩⟩
    · exact own_chg H.ct.own hc (fun k hk hm => by simp at hm; subst hm; exact (H.ct.ob F _ hk).2.2.1 hU)
    · intro hm; simp at hm; exact f1 (by rw [hm]; simp [hU])
    · intro hm; simp at hm; exact f2 (by rw [hm]; simp [hU])
    · intro f hf k hk hm; simp at hm; exact f3 f hf k hk (by rw [hm]; simp [hU])
    · intro hm; simp at hm; exact F.tn (by rw [hm]; exact hU)
  · have ho := H.ct.own
    have hlen : lz.length = nz := by have := ho.1; simpa using this
    obtain ⟨hl0, hor⟩ := id ho
    rcases hor with ⟨_, h0⟩ | ⟨b, c, cur, rfl, hg, hhp, hnc, hcm, hsz, htk⟩
    · omega
    · have hb : Blk wr b cur 5 := hhp
      have hob : (Value.slice (some ⟨b, 0, none⟩) nz c).ownBlock = some b := rfl
      obtain ⟨b0, o0, hbo, _, hseg⟩ := (BS.of_own (S := []) ho (by simp)).at_ (by omega)
      cases hbo
      have hbb := H.ct.ob F b hob
      have hbf := H.bf b hob
      refine ⟨b, 0, c, cur, 5, by rw [hlen], by omega, hb, hseg, fun w2 l' hc hh hl => ⟨_, H.moved F hc (by intro x hx; simp at hx; subst hx; exact .inr (.inl hbb.1)) ?_ (own_held ho hb hh (by omega)) ?_ ?_ ?_ ?_⟩⟩
      · refine H.ct.ins.imp fun r k => k.imp fun lb k => k.imp fun lr k => k.draw hc ?_
        intro x hx; simp at hx; subst hx
        exact ⟨by have := F.tb; omega, hbb.2.2.1⟩
      · intro hm; simp at hm; exact hbf.1 hm.symm
      · intro hm; simp at hm; exact hbf.2.1 hm.symm
      · intro f hf k hk hm; simp at hm; subst hm; exact hbf.2.2 f hf hk
      · intro hm; simp at hm; exact hbb.2.2.2 hm.symm

theorem idx_before (kv : Bs) (k : Nat) (h : idxB 58 kv = (k : Int)) : beforeB kv = kv.take k ∧ afterB kv = kv.drop (k + 1) ∧ k < kv.length := by
  induction kv generalizing k with
  | nil => simp [idxB] at h; try omega
  | cons d r ih =>
    unfold idxB at h
    by_cases hd : d = 58
    · subst hd
      simp at h
      have : k = 0 := by omega
      subst this
      simp [beforeB, afterB]
    · rw [if_neg hd] at h
      by_cases h1 : idxB 58 r = -1
      · rw [if_pos h1] at h; omega
      · rw [if_neg h1] at h
        obtain ⟨j, rfl⟩ : ∃ j, k = j + 1 := ⟨k - 1, by have := (idxB_ge 58 r).1; omega⟩
        obtain ⟨h2, h3, h4⟩ := ih j (by omega)
        have hd' : (d != 58) = true := by simpa using hd
        refine ⟨?_, ?_, by simp; omega⟩
        · unfold beforeB at h2 ⊢; rw [List.takeWhile_cons_of_pos (p := fun x => x != 58) hd', h2]; rfl
        · unfold afterB at h3 ⊢; rw [List.dropWhile_cons_of_pos (p := fun x => x != 58) hd', h3]; rfl

/-- what lies behind the key lies there as it did -/
theorem after_key {w w' : World} {b o c k : Nat} {T : TypeId} {cs : Array Value} {kv l' : Bs} (hb : Blk w b cs T) (hs : Seg w b o kv) (hh : Held w' b o T cs l') (hl : l'.length = k) (hk : k < kv.length) (hc : kv.length ≤ c) :
    BS [] w' (.slice (subA (some ⟨b, o, none⟩) c (k + 1)) (kv.length - (k + 1)) (c - (k + 1))) (kv.drop (k + 1)) := by
  obtain ⟨cs', hb', _, _, hout⟩ := hh
  have hseg : Seg w' b (o + (k + 1)) (kv.drop (k + 1)) := ⟨hb'.lt, fun i hi => by
    have hi' : k + 1 + i < kv.length := by simp at hi; omega
    rw [hb'.cell, hout _ (.inr (by omega)), ← hb.cell, Nat.add_assoc, hs.cell _ hi']
    simp [List.getD]⟩
  by_cases hck : k + 1 < c
  · rw [subA_some _ _ _ _ hck]
    exact BS.of_seg hseg (by simp) (by omega) (by simp)
  · have e : kv.length - (k + 1) = 0 := by omega
    have e2 : kv.drop (k + 1) = [] := List.drop_eq_nil_of_le (by omega)
    rw [e, e2]
    unfold subA
    rw [if_pos (by omega)]
    exact BS.of_seg (l := []) ⟨hb'.lt, fun i hi => by cases hi⟩ rfl (by omega) (by simp)

/-- a field has been put into the map -/
theorem HL.put {B : Nat} {g : Nat → Addr} {h : Hs} {TP SB : Nat} {w wr : World} {M n : Nat} {gs : List GF} {ns : Nat} {sv' bz : Value} {nz : Nat} {lz rem : Bs} (H : HL B g h TP SB w wr M n gs ns sv' bz nz lz rem) (F : CtF B h TP w.heap.size w) {S : List Nat} {w3 w4 : World} {K V : Bs} {u sv'' : Value} {ns' : Nat} (hKl : K.length ≤ 100000) (hc : Chg S wr w3) (hS : ∀ x ∈ S, w.heap.size ≤ x ∧ x ≠ M ∧ bz.ownBlock ≠ some x)
    (hv : ∀ f ∈ gs, f.1 ≠ K → Val SB ns' w.heap.size w3 f.2.2 f.2.1) (hu : Val SB ns' w.heap.size w3 u (vsOf gs K ++ [V])) (hua : ∀ f ∈ gs, f.1 ≠ K → ∀ k, k ≠ SB → f.2.2.ownBlock = some k → u.ownBlock ≠ some k) (hum : u.ownBlock ≠ some M)
    (hub : ∀ k, u.ownBlock = some k → k = SB ∨ bz.ownBlock ≠ some k) (hst : StS SB ns' w3 sv'') (hsb : SB < w.heap.size → ns' = 0 ∧ ∃ a, sv'' = .slice a 0 0) (hm4 : MapD w4 M (n + 1) (putG gs K V u)) (hc4 : Chg [M] w3 w4) : HL B g h TP SB w w4 M (n + 1) (putG gs K V u) ns' sv'' bz nz lz rem := by
  have hMb := H.mp.mb
  have hsz := H.ct.chg.size
  have hcc : Chg (M :: S) wr w4 := (hc.mono (by intro x hx; simp [hx])).trans (hc4.mono (by intro x hx; simp at hx; simp [hx]))
  have hall : ∀ x ∈ M :: S, w.heap.size ≤ x := by
    intro x hx
    rcases List.mem_cons.1 hx with rfl | hx
    · exact hMb.1
    · exact (hS x hx).1
  have hfar : ∀ x ∈ M :: S, B ≤ x ∧ x ∉ h.all ∧ x ≠ TP := fun x hx => by
    have h1 := hall x hx
    have := F.tb
    exact ⟨by omega, fun hm => by have := F.hb x hm; omega, by omega⟩
  refine ⟨⟨H.ct.ins.imp fun r k => k.imp fun lb k => k.imp fun lr k => k.draw hcc (fun x hx => ⟨(hfar x hx).1, (hfar x hx).2.1⟩), H.ct.tp.chg hcc (fun hm => (hfar TP hm).2.2 rfl), own_chg H.ct.own hcc ?_, H.ct.chg.thn hcc (fun x hx => .inr (hall x hx)), H.ct.loc⟩,
    H.mp.put hKl hc hv hu hua hum hm4 hc4, hst.chg hc4 (by simp; exact Ne.symm hMb.2), ?_, H.sb.1, Nat.lt_of_lt_of_le H.sb.2.1 hcc.size, hsb⟩
  · intro k hk hm
    rcases List.mem_cons.1 hm with rfl | hm
    · exact (H.bf _ hk).1 rfl
    · exact (hS k hm).2.2 hk
  · intro k hk
    have hb := H.bf k hk
    refine ⟨hb.1, hb.2.1, fun f hf e => ?_⟩
    rcases putG_mem H.mp.srt K V u hf with ⟨h1, _⟩ | rfl
    · exact hb.2.2 f h1 e
    · rcases hub k e with h1 | h1
      · exact hb.2.1 h1
      · exact h1 hk

theorem pw_all {α : Type} {R : α → α → Prop} (hsym : ∀ a b, R a b → R b a) {l : List α} (h : l.Pairwise R) : ∀ a ∈ l, ∀ b ∈ l, a ≠ b → R a b := by
  induction l with
  | nil => intro a ha; cases ha
  | cons x r ih =>
    obtain ⟨h1, h2⟩ := List.pairwise_cons.1 h
    intro a ha b hb hab
    rcases List.mem_cons.1 ha with e1 | ha2
    · rcases List.mem_cons.1 hb with e2 | hb2
      · exact absurd (e1.trans e2.symm) hab
      · rw [e1]; exact h1 b hb2
    · rcases List.mem_cons.1 hb with e2 | hb2
      · rw [e2]; exact hsym _ _ (h1 a ha2)
      · exact ih h2 a ha2 b hb2 hab

/-- .. cut from the row -/
theorem HL.putS {B : Nat} {g : Nat → Addr} {h : Hs} {TP SB : Nat} {w wr : World} {M n : Nat} {gs : List GF} {ns : Nat} {sv' bz : Value} {nz : Nat} {lz rem : Bs} (H : HL B g h TP SB w wr M n gs ns sv' bz nz lz rem) (F : CtF B h TP w.heap.size w) {w4 : World} {K V : Bs} {m : Nat} {sv'' : Value} (hKl : K.length ≤ 100000) (hsv : sv' = .slice (some ⟨SB, ns, none⟩) (m + 1) (m + 1)) (hany : gs.any (fun f => f.1 == K) = false)
    (hsv2 : sv'' = .slice (subA (some ⟨SB, ns, none⟩) (m + 1) 1) m m) (hm4 : MapD w4 M (n + 1) (putG gs K V (.slice (some ⟨SB, ns, none⟩) 1 1))) (hc4 : Chg [M] (wr.setCell ⟨SB, ns, none⟩ (sv V)) w4) : HL B g h TP SB w w4 M (n + 1) (putG gs K V (.slice (some ⟨SB, ns, none⟩) 1 1)) (ns + 1) sv'' bz nz lz rem := by
  obtain ⟨a0, m0, hs0, hm0, hst⟩ := H.st
  rw [hsv] at hs0
  cases hs0
  obtain ⟨_, cs, hb, hcs⟩ := hst (by omega)
  have hSB : w.heap.size ≤ SB := by
    rcases Nat.lt_or_ge SB w.heap.size with h1 | h1
    · obtain ⟨_, a, h2⟩ := H.sb.2.2 h1
      rw [hsv] at h2; cases h2
    · exact h1
  have hb3 := hb.set ns (sv V)
  have hlt : ns < cs.size := by omega
  have hmb := H.mp.mb
  refine H.put F hKl (S := [SB]) ((Chg.refl [SB] wr).setCell (.inl (by simp)) _) ?_ ?_ ?_ ?_ ?_ ?_ ?_ ?_ hm4 hc4
  · intro x hx; simp at hx; subst hx
    exact ⟨hSB, Ne.symm hmb.2, fun e => (H.bf _ e).2.1 rfl⟩
  · intro f hf _
    rcases (H.mp.vals f hf).2 with ⟨i, s, hi, hvv, hvs, hl, hcell⟩ | ⟨ho, k, hk, hkS⟩
    · refine .inl ⟨i, s, by omega, hvv, hvs, hb3.lt, ?_⟩
      rw [hb3.cell, Array.getElem?_setIfInBounds_ne (by omega), ← hb.cell]; exact hcell
    · exact .inr ⟨own_chg ho ((Chg.refl [SB] wr).setCell (.inl (by simp)) _) (fun k' hk' hm => by simp at hm; rw [hk] at hk'; cases hk'; exact hkS hm), k, hk, hkS⟩
  · rw [(valOf_not hany).2]
    exact .inl ⟨ns, V, by omega, rfl, rfl, hb3.lt, by rw [hb3.cell, Array.getElem?_setIfInBounds_self_of_lt hlt]⟩
  · intro f _ _ k hk _ e; cases e; exact hk rfl
  · intro e; cases e; exact hmb.2 rfl
  · intro k e; cases e; exact .inl rfl
  · rw [hsv2]
    refine ⟨_, m, rfl, by omega, fun h0 => ⟨?_, _, hb3, by simp; omega⟩⟩
    rw [subA_some _ _ _ _ (by omega)]
  · intro h1; omega

/-- .. in a row of its own that is new -/
theorem HL.putN {B : Nat} {g : Nat → Addr} {h : Hs} {TP SB : Nat} {w wr : World} {M n : Nat} {gs : List GF} {ns : Nat} {sv' bz : Value} {nz : Nat} {lz rem : Bs} (H : HL B g h TP SB w wr M n gs ns sv' bz nz lz rem) (F : CtF B h TP w.heap.size w) {w3 w4 : World} {K V : Bs} {u : Value} {k0 : Nat} (hKl : K.length ≤ 100000) (hc : Chg [] wr w3) (hk0 : wr.heap.size ≤ k0) (hu : w3.ownsRow k0 9 1 u (vsOf gs K ++ [V]).length ((vsOf gs K ++ [V]).map sv))
    (hm4 : MapD w4 M (n + 1) (putG gs K V u)) (hc4 : Chg [M] w3 w4) : HL B g h TP SB w w4 M (n + 1) (putG gs K V u) ns sv' bz nz lz rem := by
  have hsz := H.ct.chg.size
  obtain ⟨q, c, rfl, hq, hq2⟩ := hu.form (by simp)
  have hM := H.mp.map.lt
  have hS := H.sb.2.1
  refine H.put F hKl hc (by simp) (fun f hf _ => (H.mp.vals f hf).2.chg hc (by simp)) (.inr ⟨?_, q, rfl, by omega⟩) ?_ ?_ ?_ (H.st.chg hc (by simp)) H.sb.2.2 hm4 hc4
  · obtain ⟨h1, h2⟩ := hu
    refine ⟨h1, ?_⟩
    rcases h2 with h2 | ⟨q', c', cur, h3, h4, h5⟩
    · exact .inl h2
    · exact .inr ⟨q', c', cur, h3, by omega, h5⟩
  · intro f hf _ k _ hk e
    have e : q = k := by simpa [Value.ownBlock] using e
    rcases H.mp.blk f hf _ hk with h1 | ⟨_, h1⟩ <;> omega
  · intro e
    have e : q = M := by simpa [Value.ownBlock] using e
    omega
  · intro k e
    have e : q = k := by simpa [Value.ownBlock] using e
    right; intro e2
    have := (H.ct.ob F _ e2).2.1; omega

/-- .. behind what its own row held -/
theorem HL.putO {B : Nat} {g : Nat → Addr} {h : Hs} {TP SB : Nat} {w wr : World} {M n : Nat} {gs : List GF} {ns : Nat} {sv' bz : Value} {nz : Nat} {lz rem : Bs} (H : HL B g h TP SB w wr M n gs ns sv' bz nz lz rem) (F : CtF B h TP w.heap.size w) {w3 w4 : World} {K V : Bs} {u : Value} (hKl : K.length ≤ 100000) (hany : gs.any (fun f => f.1 == K) = true) (hown : wr.ownsRow w.heap.size 9 1 (valOf gs K) (vsOf gs K).length ((vsOf gs K).map sv)) (hne : ∃ k, (valOf gs K).ownBlock = some k ∧ k ≠ SB)
    (hg : wr.grownBy w3 (valOf gs K).ownBlock) (hu : w3.ownsRow w.heap.size 9 1 u (vsOf gs K ++ [V]).length ((vsOf gs K ++ [V]).map sv)) (hloc : ∀ k, u.ownBlock = some k → (valOf gs K).ownBlock = some k ∨ k = wr.heap.size)
    (hm4 : MapD w4 M (n + 1) (putG gs K V u)) (hc4 : Chg [M] w3 w4) : HL B g h TP SB w w4 M (n + 1) (putG gs K V u) ns sv' bz nz lz rem := by
  have hsz := H.ct.chg.size
  obtain ⟨k0, hk0, hkS⟩ := hne
  rw [hk0] at hg hloc
  have hc : Chg [k0] wr w3 := Chg.of_grown hg
  obtain ⟨f0, hf0, hfk, hfv, hfs⟩ := valOf_mem hany
  have hM := H.mp.map.lt
  have hS := H.sb.2.1
  have hk0b := hown.lt k0 hk0
  have hap : ∀ f ∈ gs, f.1 ≠ K → f.2.2.ownBlock ≠ some k0 := by
    intro f hf hfK e
    have hne2 : f ≠ f0 := fun e2 => hfK (by rw [e2]; exact hfk)
    have hpw := H.mp.apart
    have hall : ∀ a ∈ gs, ∀ b ∈ gs, a ≠ b → ∀ k, k ≠ SB → a.2.2.ownBlock = some k → b.2.2.ownBlock ≠ some k := by
      intro a ha b hb hab
      exact pw_all (fun x y hxy k h1 h2 h3 => hxy k h1 h3 h2) hpw a ha b hb hab
    exact hall f hf f0 hf0 hne2 k0 hkS e (by rw [← hfv]; exact hk0)
  refine H.put F hKl hc ?_ (fun f hf hfK => (H.mp.vals f hf).2.chg hc (fun k hk hm => by simp at hm; subst hm; exact hap f hf hfK hk)) (.inr ⟨hu, ?_⟩) ?_ ?_ ?_ (H.st.chg hc (by simp; exact Ne.symm hkS)) H.sb.2.2 hm4 hc4
  · intro x hx; simp at hx; subst hx
    refine ⟨hk0b.1, fun e => H.mp.far f0 hf0 (by rw [← hfv, hk0, e]), fun e => (H.bf _ e).2.2 f0 hf0 (by rw [← hfv]; exact hk0)⟩
  · obtain ⟨q, c, rfl, hq, hq2⟩ := hu.form (by simp)
    refine ⟨q, rfl, ?_⟩
    rcases hloc q rfl with h1 | h1
    · cases h1; exact hkS
    · omega
  · intro f hf hfK k hkne hk e
    rcases hloc k e with h1 | h1
    · cases h1; exact hap f hf hfK hk
    · rcases H.mp.blk f hf _ hk with h2 | ⟨_, h2⟩ <;> omega
  · intro e
    rcases hloc M e with h1 | h1
    · cases h1; exact H.mp.far f0 hf0 (by rw [← hfv]; exact hk0)
    · omega
  · intro k e
    right; intro e2
    rcases hloc k e with h1 | h1
    · cases h1; exact (H.bf _ e2).2.2 f0 hf0 (by rw [← hfv]; exact hk0)
    · have := (H.ct.ob F _ e2).2.1; omega
end Go.Proofs.YtekndndhgkdggaaGreatDoor
