/- slices.Sort of strings by the shelf's contract, laid at this program in plain words. A part's header as fields: the keys collected, sorted, and what is at each. -/
import Derived.Test.YtekndndhgkdggaaGreatDoorR10
import Derived.Sort.OwnSorted
import Derived.Sort.KeysCollected
import Derived.WalkKit
import Derived.Shelf.Sort.Plain
import Derived.Deep.LoopGhost
import Derived.Deep.AppendLies
namespace Go.Proofs.YtekndndhgkdggaaGreatDoor
open Go.Shelf Go.RowKit Go.Sort Go.Maps
def lays190_ren : Go.Shelf.Ren := ⟨fun | 190 => 39 | 125 => 52 | 258 => 51 | 128 => 74 | 129 => 75 | 302 => 65 | 303 => 66 | 304 => 67 | 305 => 68 | 306 => 69 | 307 => 70 | 308 => 71 | 309 => 72 | 310 => 73 | 333 => 83 | 329 => 84 | 330 => 85 | 334 => 86 | 335 => 87 | 336 => 88 | 344 => 95 | n => n, fun | 31 => 59 | 9 => 9 | 3 => 3 | 46 => 116 | 0 => 0 | 51 => 150 | 53 => 152 | 4 => 4 | 183 => 143 | 182 => 142 | 131 => 147 | 5 => 5 | 218 => 165 | 222 => 169 | 228 => 184 | 229 => 185 | n => n, fun | n => n⟩
theorem lays190 : Go.Proofs.Lays.n190 Tryz.prog lays190_ren := {
  mixed := by kernel_rfl
  f125 := Tryz.func52.trans (congrArg some (by kernel_rfl))
  f128 := Tryz.func74.trans (congrArg some (by kernel_rfl))
  f129 := Tryz.func75.trans (congrArg some (by kernel_rfl))
  f190 := Tryz.func39.trans (congrArg some (by kernel_rfl))
  f258 := Tryz.func51.trans (congrArg some (by kernel_rfl))
  f302 := Tryz.func65.trans (congrArg some (by kernel_rfl))
  f303 := Tryz.func66.trans (congrArg some (by kernel_rfl))
  f304 := Tryz.func67.trans (congrArg some (by kernel_rfl))
  f305 := Tryz.func68.trans (congrArg some (by kernel_rfl))
  f306 := Tryz.func69.trans (congrArg some (by kernel_rfl))
  f307 := Tryz.func70.trans (congrArg some (by kernel_rfl))
  f308 := Tryz.func71.trans (congrArg some (by kernel_rfl))
  f309 := Tryz.func72.trans (congrArg some (by kernel_rfl))
  f310 := Tryz.func73.trans (congrArg some (by kernel_rfl))
  f329 := Tryz.func84.trans (congrArg some (by kernel_rfl))
  f330 := Tryz.func85.trans (congrArg some (by kernel_rfl))
  f333 := Tryz.func83.trans (congrArg some (by kernel_rfl))
  f334 := Tryz.func86.trans (congrArg some (by kernel_rfl))
  f335 := Tryz.func87.trans (congrArg some (by kernel_rfl))
  f336 := Tryz.func88.trans (congrArg some (by kernel_rfl))
  f344 := Tryz.func95.trans (congrArg some (by kernel_rfl))
  t0 := Tryz.underlying0
  a0 := Tryz.isAgg0
  z0 := Tryz.sizeOf0
  v0 := Tryz.zeroValue0
  t3 := Tryz.underlying3
  a3 := Tryz.isAgg3
  z3 := Tryz.sizeOf3
  v3 := Tryz.zeroValue3
  t4 := Tryz.underlying4
  a4 := Tryz.isAgg4
  z4 := Tryz.sizeOf4
  v4 := Tryz.zeroValue4
  t5 := Tryz.underlying5
  a5 := Tryz.isAgg5
  z5 := Tryz.sizeOf5
  v5 := Tryz.zeroValue5
  t9 := Tryz.underlying9
  a9 := Tryz.isAgg9
  z9 := Tryz.sizeOf9
  v9 := Tryz.zeroValue9
  t31 := Tryz.underlying59
  a31 := Tryz.isAgg59
  z31 := Tryz.sizeOf59
  v31 := Tryz.zeroValue59
  t46 := Tryz.underlying116
  a46 := Tryz.isAgg116
  z46 := Tryz.sizeOf116
  v46 := Tryz.zeroValue116
  t51 := Tryz.underlying150
  a51 := Tryz.isAgg150
  z51 := Tryz.sizeOf150
  v51 := Tryz.zeroValue150
  t53 := Tryz.underlying152
  a53 := Tryz.isAgg152
  z53 := Tryz.sizeOf152
  v53 := Tryz.zeroValue152
  t131 := Tryz.underlying147
  a131 := Tryz.isAgg147
  z131 := Tryz.sizeOf147
  v131 := Tryz.zeroValue147
  t182 := Tryz.underlying142
  a182 := Tryz.isAgg142
  z182 := Tryz.sizeOf142
  v182 := Tryz.zeroValue142
  t183 := Tryz.underlying143
  a183 := Tryz.isAgg143
  z183 := Tryz.sizeOf143
  v183 := Tryz.zeroValue143
  t218 := Tryz.underlying165
  a218 := Tryz.isAgg165
  z218 := Tryz.sizeOf165
  v218 := Tryz.zeroValue165
  t222 := Tryz.underlying169
  a222 := Tryz.isAgg169
  z222 := Tryz.sizeOf169
  v222 := Tryz.zeroValue169
  t228 := Tryz.underlying184
  a228 := Tryz.isAgg184
  z228 := Tryz.sizeOf184
  v228 := Tryz.zeroValue184
  t229 := Tryz.underlying185
  a229 := Tryz.isAgg185
  z229 := Tryz.sizeOf185
  v229 := Tryz.zeroValue185 }

theorem ltB_lt : ∀ {a b : Bs}, ltB a b = true → a < b
  | [], [], h => by simp [ltB] at h
  | [], _ :: _, _ => by simp
  | _ :: _, [], h => by simp [ltB] at h
  | x :: a, y :: b, h => by
    simp only [ltB, Bool.or_eq_true, decide_eq_true_eq, Bool.and_eq_true, beq_iff_eq] at h
    rw [List.cons_lt_cons_iff]
    rcases h with h | ⟨rfl, h⟩
    · exact .inl h
    · exact .inr ⟨rfl, ltB_lt h⟩

theorem sort_own {w : World} {base g c : Nat} {n : Nat} {l : List Bs} (ho : w.ownsRow base 9 1 (.slice (some ⟨g, 0, none⟩) n c) n (l.map sv)) (hl : l.length ≤ 100000) :
    Calls Tryz.prog 39 #[.slice (some ⟨g, 0, none⟩) n c] w fun e w' => e = .returned (.tuple #[]) ∧ Chg [g] w w' ∧ w'.ownsRow base 9 1 (.slice (some ⟨g, 0, none⟩) n c) n ((l.mergeSort leB).map sv) := by
  have hn : l.length = n := by have := ho.1; simpa using this
  rcases ho.2 with ⟨h1, _⟩ | ⟨g', cap, cur, hv, hg, hh, hnc, hcm, hsz, htk⟩
  · cases h1
  · cases hv
    have hH : Holds encStr w g 0 l.toArray := by
      intro j hj
      have hj' : j < l.length := by simpa using hj
      have hb : Blk w g cur 9 := hh
      refine ⟨?_, hb.free _⟩
      rw [hb.cell, Nat.zero_add]
      have h2 : (cur.toList.take (n * 1))[j]? = (l.map sv)[j]? := by rw [htk]
      rw [List.getElem?_take_of_lt (by omega), Array.getElem?_toList] at h2
      rw [h2]
      simp [hj', bstr]
    have hc := Go.Proofs.Any.slices_Sort_string lays190 g 0 c l w hH (Array.getElem?_eq_some_iff.1 hh).1 (by omega)
    rw [hn] at hc
    refine hc.mono ?_
    rintro e w' ⟨rfl, nn, os, rfl⟩
    refine ⟨rfl, Chg.of_grown (grownBy_sorted _), ?_⟩
    have := ownsRow_sorted (n := nn) (os := os) (ss := l) (ts := l.mergeSort leB) (by simp) hg hh (by omega) hcm hsz
    rw [hn] at this
    exact this

theorem keys_sorted {gs : List GF} (hs : Srt gs) {l : List Bs} (hp : l.Perm (gs.map (·.1))) : l.mergeSort leB = gs.map (·.1) := by
  rw [mergeSort_of_perm hp]
  have hpw : (gs.map (·.1)).Pairwise (fun a b => leB a b = true) := by
    rw [List.pairwise_map]
    refine hs.imp ?_
    intro a b h
    simp only [leB, decide_eq_true_eq]
    exact List.le_of_lt (ltB_lt h)
  exact List.mergeSort_of_pairwise hpw
end Go.Proofs.YtekndndhgkdggaaGreatDoor

namespace Go.Proofs.YtekndndhgkdggaaGreatDoor
open Go.RowKit Go.Maps

/-- the keys that have come -/
def Got (D : DataW Value) (left : Lit → Bool) (l : List Bs) : Prop := l.Nodup ∧ ∀ k : Bs, k ∈ l ↔ (Go.Maps.has D (.string k) = true ∧ left (.string k) = false)

theorem same_str (a b : Bs) : (Lit.string a : Lit).sameKey (.string b) = decide (a = b) := by
  by_cases h : a = b
  · subst h; simp [Go.WideAt.sameKey_self (show Go.WideAt.IsKeyLit (Lit.string a) from trivial)]
  · have : (Lit.string a : Lit) ≠ .string b := fun e => h (by cases e; rfl)
    rw [Go.Maps.sameKey_ne this]; simp [h]

theorem Got.start (D : DataW Value) : Got D (Go.Maps.has D) [] := by
  refine ⟨by simp, fun k => ?_⟩
  constructor
  · intro h; cases h
  · rintro ⟨h1, h2⟩; rw [h1] at h2; cases h2

theorem Got.step {D : DataW Value} {left : Lit → Bool} {l : List Bs} {x : Bs} (h : Got D left l) (hx : left (.string x) = true) (hd : Go.Maps.has D (.string x) = true) : Got D (fun z => left z && !z.sameKey (.string x)) (l ++ [x]) := by
  have hxl : x ∉ l := fun hm => by have := ((h.2 x).1 hm).2; rw [hx] at this; cases this
  refine ⟨?_, fun k => ?_⟩
  · rw [List.nodup_append]
    exact ⟨h.1, by simp, fun a ha b hb => by simp at hb; subst hb; exact fun e => hxl (e ▸ ha)⟩
  · rw [List.mem_append, List.mem_singleton]
    simp only [same_str]
    by_cases hk : k = x
    · subst hk; simp [hd]
    · simp [hk, h.2 k]

theorem Got.keys {D : DataW Value} {left : Lit → Bool} {l : List Bs} {gs : List GF} (h : Got D left l) (hl : ∀ kl, left kl = false) (hg : ∀ k : Bs, Go.Maps.has D (.string k) = gs.any (fun g => g.1 == k)) (hs : Srt gs) : l.Perm (gs.map (·.1)) := by
  have hnd : (gs.map (·.1)).Nodup := by
    rw [List.nodup_iff_pairwise_ne, List.pairwise_map]
    exact hs.imp (fun {a b} hab e => by rw [e, ltB_irr] at hab; cases hab)
  rw [List.perm_ext_iff_of_nodup h.1 hnd]
  intro k
  rw [h.2 k, hg k]
  simp [hl]

theorem OwnF.snoc {base : Nat} {w w' : World} {v v' : Value} {gs : List GF} {g : GF} (h : OwnF base w v gs) (hv : w.ownsRow base 9 1 g.2.2 g.2.1.length (g.2.1.map sv)) (hnew : ∃ k, g.2.2.ownBlock = some k ∧ v.ownBlock ≠ some k ∧ (∀ f ∈ gs, f.2.2.ownBlock ≠ some k))
    (hg : w.grownBy w' v.ownBlock) (hrow : w'.ownsRow base 61 2 v' (gs.length + 1) (cellsF gs ++ [sv g.1, g.2.2])) (hloc : ∀ k, v'.ownBlock = some k → v.ownBlock = some k ∨ k = w.heap.size) : OwnF base w' v' (gs ++ [g]) := by
  obtain ⟨k0, hk0, hk1, hk2⟩ := hnew
  have hc : Chg v.ownBlock.toList w w' := Chg.of_grown hg
  have hne : ∀ f : GF, (∀ k, f.2.2.ownBlock = some k → k < w.heap.size ∧ v.ownBlock ≠ some k) → ∀ k, f.2.2.ownBlock = some k → v'.ownBlock ≠ some k := fun f hf k hk e => by
    rcases hloc k e with h1 | h1
    · exact (hf k hk).2 h1
    · have := (hf k hk).1; omega
  have hold : ∀ f ∈ gs, ∀ k, f.2.2.ownBlock = some k → k < w.heap.size ∧ v.ownBlock ≠ some k := fun f hf k hk => by
    obtain ⟨h1, k', hk', hk''⟩ := h.vals f hf
    rw [hk] at hk'; cases hk'
    exact ⟨(h1.lt k hk).2, hk''⟩
  have hgn : ∀ k, g.2.2.ownBlock = some k → k < w.heap.size ∧ v.ownBlock ≠ some k := fun k hk => by
    rw [hk0] at hk; cases hk
    exact ⟨(hv.lt _ hk0).2, hk1⟩
  refine ⟨by rw [List.length_append]; simpa [cellsF_app, cellsF_cons, cellsF] using hrow, fun f hf => ?_, ?_⟩
  · rcases List.mem_append.1 hf with hf | hf
    · obtain ⟨h1, k', hk', hk''⟩ := h.vals f hf
      exact ⟨own_chg h1 hc (fun k hk hm => by simp at hm; exact (hold f hf k hk).2 hm), k', hk', hne f (hold f hf) k' hk'⟩
    · simp at hf; subst hf
      exact ⟨own_chg hv hc (fun k hk hm => by simp at hm; exact (hgn k hk).2 hm), k0, hk0, hne f hgn k0 hk0⟩
  · rw [List.pairwise_append]
    refine ⟨h.apart, by simp, fun a ha b hb => ?_⟩
    simp at hb; subst hb
    rw [hk0]; exact hk2 a ha

theorem valOf_at {gs : List GF} (hs : Srt gs) {f : GF} (hf : f ∈ gs) : valOf gs f.1 = f.2.2 := by
  induction gs with
  | nil => cases hf
  | cons g r ih =>
    unfold valOf
    rcases List.mem_cons.1 hf with rfl | hf
    · simp
    · rw [if_neg (fun e => hs.ne f hf e.symm)]
      exact ih (List.pairwise_cons.1 hs).2 hf

/-- between the copy of a field's values and the field's being put behind the others -/
theorem fl_mid {base : Nat} {w w5 : World} {v : Value} {gs : List GF} {K : Bs} {m q5 c6 : Nat} {vs : List Value} (h : OwnF base w v gs) (hg : (w.alloc (.cells #[] 9)).grownBy w5 (some w.heap.size)) (ho : w5.ownsRow base 9 1 (.slice (some ⟨q5, 0, none⟩) m c6) m vs)
    (hloc : ∀ b, (Value.slice (some ⟨q5, 0, none⟩) m c6).ownBlock = some b → (Value.slice (some ⟨w.heap.size, 0, none⟩) 0 0).ownBlock = some b ∨ b = (w.alloc (.cells #[] 9)).heap.size) (hl : q5 < w5.heap.size) :
    (w5.alloc (.cells #[sv K, .slice (some ⟨q5, 0, none⟩) m c6] 61)).ownsRow base 61 2 v gs.length (cellsF gs) ∧ base ≤ (w5.alloc (.cells #[sv K, .slice (some ⟨q5, 0, none⟩) m c6] 61)).heap.size ∧
    OwnF base (w5.alloc (.cells #[sv K, .slice (some ⟨q5, 0, none⟩) m c6] 61)) v gs ∧ w.heap.size ≤ q5 ∧ Chg [] w (w5.alloc (.cells #[sv K, .slice (some ⟨q5, 0, none⟩) m c6] 61)) := by
  have hc5 : Chg [] w w5 := ((Chg.refl [] w).alloc _).grown hg (fun k hk => .inr (by cases hk; exact Nat.le_refl _))
  have hc6 : Chg [] w (w5.alloc (.cells #[sv K, .slice (some ⟨q5, 0, none⟩) m c6] 61)) := hc5.alloc _
  have hF := h.keep hc6 (by simp)
  have hb := (ho.lt q5 rfl).1
  have hq : w.heap.size ≤ q5 := by
    rcases hloc q5 rfl with h1 | h1
    · cases h1; exact Nat.le_refl _
    · rw [h1]; simp
  refine ⟨hF.row, by simp; omega, hF, hq, hc6⟩

def FlPost (w : World) (gs : List GF) (e : Ending) (w' : World) : Prop := ∃ v gs', e = .returned v ∧ OwnF w.heap.size w' v gs' ∧ fsOf gs' = fsOf gs ∧ Chg [] w w'

set_option maxRecDepth 100000 in
set_option maxHeartbeats 8000000 in
theorem fields_any {base SB ns : Nat} {w : World} {PP M n : Nat} {gs : List GF} {pcs : Array Value} (hm : MapS base SB ns w M n gs) (hP : Blk w PP pcs 93) (hP0 : pcs[0]? = some (.map (some M))) (hn : n ≤ 3000) :
    Calls Tryz.prog 22 #[.pointer (some ⟨PP, 0, none⟩)] w (FlPost w gs) := by
  obtain ⟨D, hown, hat⟩ := hm.map
  have c0 : w.cell? ⟨PP, 0, none⟩ = some (.map (some M)) := by rw [hP.cell]; exact hP0
  have hMlt := hown.lt
  have hown1 : (w.alloc (.cells #[] 9)).ownsMap Tryz.prog 9 RV M n D := hown.alloc _
  have hk0 : (w.alloc (.cells #[] 9)).ownsRow w.heap.size 9 1 (.slice (some ⟨w.heap.size, 0, none⟩) 0 0) 0 (([] : List Bs).map sv) :=
    World.ownsRow_made w #[] 0 (Nat.le_refl _) (by unfold maxLen; omega) rfl
  have c0' : (w.alloc (.cells #[] 9)).cell? ⟨PP, 0, none⟩ = some (.map (some M)) := by rw [((Chg.refl [] w).alloc _).cell (p := ⟨PP, 0, none⟩) hP.lt (by simp)]; exact c0
  have hb0 : ∀ W, (Instr.buildSlice 59 0 #[]).run Tryz.prog W = .ok (.slice (some ⟨W.heap.size, 0, none⟩) 0 0) (W.alloc (.cells #[] 9)) := fun W => by kernel_rfl
  have HM := Lib.hid (And.intro hm (And.intro hP (And.intro hP0 (And.intro hown hat)))); clear hm hP hP0 hown hat c0
  have hown1h := Lib.hid hown1
  go_enter Tryz.func22, Tryz.ntmps22
  go_wp2_with (first | (at_range; refine wpList_range_own _ rfl _ 90 rfl 9 59 key_law map90 RV M n D rfl hown1 ?_; intro w0 hrg0 hg0 hs0) | fail)
  have hsz0 : (w.alloc (.cells #[] 9)).heap.size = w.heap.size + 1 := by simp
  obtain ⟨rB, hrB⟩ : ∃ rB, rB = (w.alloc (.cells #[] 9)).heap.size := ⟨_, rfl⟩
  rw [← hrB] at hrg0
  have hsD := hown1.size_le
  have hkeys0 : w0.ownsRow w.heap.size 9 1 (.slice (some ⟨w.heap.size, 0, none⟩) 0 0) 0 (([] : List Bs).map sv) := own_chg hk0 (Chg.of_grown hg0) (by simp)
  have hc0w : Chg [] w w0 := ((Chg.refl [] w).alloc _).trans (Chg.of_grown hg0)
  have H0 := Lib.hid (And.intro hrg0 (And.intro hkeys0 hc0w)); clear hrg0 hkeys0 hg0 hown1 hk0 c0' hs0
  have HRB := Lib.hid (And.intro hrB hsz0)
  go_frame
  rw [← hrB]
  clear hrB hsz0
  go_loopg [3] (Go.Maps.size D) (fun k s3 wr => ∃ (left : Lit → Bool) (cnt : Nat) (l : List Bs) (q c : Nat), s3 = .slice (some ⟨q, 0, none⟩) l.length c ∧ Hid (wr.ranges Tryz.prog 9 RV M rB n D left cnt) ∧ Hid (Got D left l) ∧ Hid (wr.ownsRow w.heap.size 9 1 (.slice (some ⟨q, 0, none⟩) l.length c) l.length (l.map sv)) ∧ Hid (Chg [] w wr) ∧ cnt ≤ k ∧ q ≠ M ∧ q ≠ rB ∧ l.length + cnt ≤ 3000)
  case atStart =>
    refine ⟨_, _, [], w.heap.size, 0, rfl, H0.out.1, Got.start D, H0.out.2.1, H0.out.2.2, Nat.le_refl _, by omega, ?_, by simp; omega⟩
    have := HRB.out.1; have := HRB.out.2; omega
  case round =>
    obtain ⟨left, cnt, l, q, c, rfl, hrg, hgot, hrow, hcw, hck, hqM, hqr, hlc⟩ := hrel
    have hrg' := hrg.out
    have hrow := Lib.hid hrow.out
    have hgot := Lib.hid hgot.out
    have hcw := Lib.hid hcw.out
    go_wp2_with (first | (at_next; refine wpList_next_ranges _ rfl _ rfl 9 key_law RV sv id (fun key kl hkey => by obtain ⟨x, hx, _⟩ := Maps.keyOf_str (by kernel_rfl) hkey; exact ⟨x, hx⟩) (fun v y _ => ⟨v, rfl⟩) M rB n D left cnt rfl hrg' ?_ ?_) | fail)
    · intro hcz hl0
      have hperm := hgot.out.keys hl0 (fun k => (HM.out.2.2.2.2 k).2) HM.out.1.srt
      have hlen : l.length ≤ 3000 := by omega
      have hsort := Lib.hid (sort_own hrow.out (by omega))
      rw [keys_sorted HM.out.1.srt hperm] at hsort
      have hgl : gs.length = l.length := by have := hperm.length_eq; simpa using this.symm
      clear hrg' hrg hgot hck hcz hl0
      go_wp2_with fail
      refine hsort.out.mono ?_
      rintro e w2 ⟨rfl, hc2, hrow2⟩
      have hcw2 : Hid (Chg [] w w2) := (hcw.out.none.trans hc2).less (fun x hx => by
        simp at hx; subst hx
        exact .inr (hrow.out.lt x rfl).1)
      have hrow2 := Lib.hid hrow2
      clear hc2 hsort hperm
      have hb39 : (Instr.buildSlice 39 0 #[]).run Tryz.prog w2 = .ok (.slice (some ⟨w2.heap.size, 0, none⟩) 0 0) (w2.alloc (.cells #[] 61)) := buildSlice_nil39 w2
      go_wp2
      obtain ⟨N, hN⟩ : ∃ N, N = l.length := ⟨_, rfl⟩
      have hN3 : N ≤ 3000 := by omega
      have hrow3 := own_chg hrow2.out ((Chg.refl [] w2).alloc (.cells #[] 61)) (by simp)
      have hF0 : OwnF w.heap.size (w2.alloc (.cells #[] 61)) (.slice (some ⟨w2.heap.size, 0, none⟩) 0 0) [] := OwnF.nil w2 w.heap.size hcw2.out.size
      have hql := hrow2.out.lt q rfl
      have HL := Lib.hid (And.intro hF0 (And.intro hrow3 (And.intro hcw2.out (And.intro hN hgl)))); clear hF0 hrow3 hcw2 hrow2 hgl
      rw [← hN] at *
      clear hN
      go_loopg [5, 27] N (fun k s5 s27 wr2 => ∃ (i : Nat) (gs' : List GF) (a5 : Option Addr) (c5 : Nat), s27 = .int .i64 (i : Int) ∧ i ≤ N ∧ N - i ≤ k ∧ s5 = .slice a5 i c5 ∧ gs'.length = i ∧ Hid (OwnF w.heap.size wr2 (.slice a5 i c5) gs' ∧ fsOf gs' = (fsOf gs).take i ∧ Chg [] w wr2 ∧ wr2.ownsRow w.heap.size 9 1 (.slice (some ⟨q, 0, none⟩) N c) N ((gs.map (·.1)).map sv) ∧ q ∉ blkF (.slice a5 i c5) gs'))
      case atStart =>
        refine ⟨0, [], _, _, rfl, Nat.zero_le _, Nat.le_refl _, rfl, rfl, HL.out.1, by simp [fsOf], HL.out.2.2.1.alloc _, HL.out.2.1, ?_⟩
        simp [blkF, Value.ownBlock]; omega
      case round =>
        obtain ⟨i, gs', a5, c5, rfl, hiN, hik, rfl, hgi, hst⟩ := hrel
        have hst := Lib.hid hst.out
        by_cases hlt : i < N
        · have hgl := HL.out.2.2.2.2
          obtain ⟨f, hf⟩ : ∃ f, gs[i]? = some f := ⟨gs[i]'(by omega), List.getElem?_eq_getElem _⟩
          have hfm : f ∈ gs := List.mem_of_getElem? hf
          have hcell : wr.cell? ⟨q, i, none⟩ = some (sv f.1) := by
            have := World.ownsRow.cells hst.out.2.2.2.1 (g := q) rfl i (sv f.1) (by simp [hf])
            rw [Addr.add_at, Nat.zero_add] at this
            exact this
          have hca : Chg [] w (wr.alloc (.cells #[] 9)) := hst.out.2.2.1.alloc _
          have c0a : (wr.alloc (.cells #[] 9)).cell? ⟨PP, 0, none⟩ = some (.map (some M)) := by rw [(HM.out.2.1.chg hca (by simp)).cell]; exact HM.out.2.2.1
          have hsm := HM.out.1.small f hfm
          have hlk := ((HM.out.1.map.chg hca (by simp)).look f.1 hsm.1)
          rw [valOf_at HM.out.1.srt hfm] at hlk
          obtain ⟨sa, sc, hfv, hsc, hsor⟩ := ((HM.out.1.vals f hfm).2.str (S := []) (by simp)).chg hca
          obtain ⟨m, hm⟩ : ∃ m, m = f.2.1.length := ⟨_, rfl⟩
          rw [← hm] at hfv hsc
          rw [hfv] at hlk
          obtain ⟨K, hK⟩ : ∃ K, K = f.1 := ⟨_, rfl⟩
          rw [← hK] at hcell hlk
          have hE0 : (wr.alloc (.cells #[] 9)).ownsRow w.heap.size 9 1 (.slice (some ⟨wr.heap.size, 0, none⟩) 0 0) 0 (([] : List Bs).map sv) := World.ownsRow_made wr #[] 0 hst.out.2.2.1.size (by unfold maxLen; omega) rfl
          have hbase : w.heap.size ≤ (wr.alloc (.cells #[] 9)).heap.size := hca.size
          have hnone : sa = none → m = 0 ∧ sc = 0 := by
            rintro rfl
            rcases hsor with ⟨_, h1, h2⟩ | ⟨b, o, h1, _⟩
            · exact ⟨by rw [hm, h1]; rfl, h2⟩
            · cases h1
          have hnews : ∀ ad, sa = some ad → ∀ j u, (f.2.1.map sv)[j]? = some u → (wr.alloc (.cells #[] 9)).cell? (ad.add j) = some u := by
            rintro ad rfl j u hj
            rcases hsor with ⟨h1, _⟩ | ⟨b, o, h1, _, _, h2⟩
            · cases h1
            · cases h1
              have hjl : j < f.2.1.length := by
                rcases Nat.lt_or_ge j f.2.1.length with h | h
                · exact h
                · rw [List.getElem?_eq_none (by simpa using h)] at hj; cases hj
              rw [Addr.add_at, h2 j hjl]
              simp [List.getElem?_eq_getElem hjl] at hj
              simp [List.getD, List.getElem?_eq_getElem hjl, ← hj]
          have hml : (f.2.1.map sv).length = m * 1 := by simp [hm]
          have hm6 : 0 + m ≤ 1000000 := by omega
          have hmp : 0 < m := by rw [hm]; exact List.length_pos_iff.2 (HM.out.1.vals f hfm).1
          have HST := Lib.hid (And.intro hfm (And.intro hf (And.intro hca (And.intro hm hK)))); clear hfm hf hca hsor hfv hm hK
          go_wp2_with (first
            | (at_builtin; (refine wpl_app3 rfl (.tmp 33) (.tmp 39) 59 rfl w.heap.size 9 (.string ByteArray.empty) 1 16 (by kernel_rfl) info9 rfl (by decide) (by decide) (.slice (some ⟨wr.heap.size, 0, none⟩) 0 0) 0 (([] : List Bs).map sv) rfl hE0 sa m sc (f.2.1.map sv) rfl hml hnone hnews (sv_one _) hm6 hbase ?_; intro v5 w5 ho5 hg5 hloc5; rw [Nat.zero_add] at ho5; obtain ⟨q5, c6, rfl, hq5, hq5l⟩ := World.ownsRow.form ho5 hmp; have hP5 := fl_mid (K := K) hst.out.1 hg5 ho5 hloc5 hq5l; have hP5 := Lib.hid hP5; have hrow6 := hP5.out.1; rw [hgi] at hrow6; have hcn6 := cell_two_new w5 (sv K) (.slice (some ⟨q5, 0, none⟩) m c6) 61; have hb6 := hP5.out.2.1; have hk5 := Lib.hid (And.intro ho5 (And.intro hg5 hloc5)); clear ho5 hg5 hloc5))
            | (at_builtin; (refine wpl_app3 rfl (.tmp 31) (.tmp 42) 39 rfl w.heap.size 61 (.agg #[.string ByteArray.empty, .slice none 0 0]) 2 40 (by kernel_rfl) info61 rfl (by decide) (by decide) (.slice a5 i c5) i (cellsF gs') rfl hrow6 (some ⟨w5.heap.size, 0, none⟩) 1 1 [sv K, .slice (some ⟨q5, 0, none⟩) m c6] rfl rfl (by intro h; cases h) (by intro ad had; cases had; exact hcn6) (two_one _ _ rfl rfl) (by omega) hb6 ?_; intro v6 w6 ho6 hg6 hloc6; obtain ⟨q6, c7, rfl, hq6, hq6l⟩ := World.ownsRow.form ho6 (Nat.succ_pos _); have ho6 := Lib.hid ho6; have hg6 := Lib.hid hg6; have hloc6 := Lib.hid hloc6)))
          go_roundg (N - (i + 1))
          case measure => omega
          case rel =>
            obtain ⟨hfm, hf, hca, hm, hK⟩ := HST.out
            obtain ⟨hF, hfs, hcw3, hkr, hqn⟩ := hst.out
            obtain ⟨hr6, _, hF5, hq5g, hc15⟩ := hP5.out
            have hqlt : q < wr.heap.size := (hkr.lt q rfl).2
            have hblk := hF.blk
            have hao : ∀ k, (Value.slice a5 i c5).ownBlock = some k → k < wr.heap.size ∧ k ≠ q := fun k hk =>
              ⟨(hblk k (mem_blkF.2 (.inl hk))).2, fun e => hqn (mem_blkF.2 (.inl (by rw [← e]; exact hk)))⟩
            have hsn : OwnF w.heap.size w6 (.slice (some ⟨q6, 0, none⟩) (i + 1) c7) (gs' ++ [(K, f.2.1, .slice (some ⟨q5, 0, none⟩) m c6)]) := by
              refine OwnF.snoc hF5 ?_ ⟨q5, rfl, ?_, ?_⟩ hg6.out (by rw [hgi]; exact ho6.out) hloc6.out
              · have := own_chg hk5.out.1 ((Chg.refl [] w5).alloc (.cells #[sv K, .slice (some ⟨q5, 0, none⟩) m c6] 61)) (by simp)
                simp only [← hm]; simpa using this
              · intro e; have := (hao q5 e).1; omega
              · intro g hg e; have := (hblk q5 (mem_blkF.2 (.inr ⟨g, hg, e⟩))).2; omega
            refine ⟨i + 1, _, some ⟨q6, 0, none⟩, c7, by go_num, by omega, Nat.le_refl _, rfl, by simp [hgi], hsn, ?_, ?_, ?_, ?_⟩
            · rw [List.take_add_one, ← hfs]
              simp [fsOf, hf, hK]
            · exact (hcw3.trans hc15).grown hg6.out (fun k hk => .inr (hblk k (mem_blkF.2 (.inl hk))).1)
            · exact own_chg (own_chg hkr hc15 (by simp)) (Chg.of_grown hg6.out) (fun k hk hmm => by cases hk; simp at hmm; exact (hao q hmm).2 rfl)
            · intro hmm
              rcases mem_blkF.1 hmm with h1 | ⟨g, hg, h1⟩
              · rcases hloc6.out q h1 with h2 | h2
                · exact (hao q h2).2 rfl
                · have := hc15.size; omega
              · rcases List.mem_append.1 hg with hg | hg
                · exact hqn (mem_blkF.2 (.inr ⟨g, hg, h1⟩))
                · simp at hg; subst hg
                  simp [Value.ownBlock] at h1; omega
        · have hie : i = N := by omega
          have HIE := Lib.hid hie
          clear hie hgi
          go_wp2
          go_ret
          refine ⟨_, gs', rfl, hst.out.1, ?_, hst.out.2.2.1⟩
          rw [hst.out.2.1, HIE.out]
          have := HL.out.2.2.2.2
          exact List.take_of_length_le (by simp [fsOf]; omega)
    · intro x c9 kl ya yb w1 cnt1 hkx hlx hv hat1 hrg1 hlt1 hg1 hs1 hen
      obtain ⟨x', hx', rfl, _⟩ := Maps.keyOf_str (by kernel_rfl) hkx
      have hxx : x = x' := by
        have : bstr x = bstr x' := by simpa [Go.Proofs.encStr, bstr] using hx'
        exact bstr_inj this
      subst hxx
      have hD : Go.Maps.has D (.string x) = true := Go.Maps.has_true_of_atKey hat1
      have hgot1 := Lib.hid (hgot.out.step hlx hD)
      have hrg1 := Lib.hid hrg1
      have hc1 : Chg [rB] wr w1 := Chg.of_grown hg1
      have hrow1 := own_chg hrow.out hc1 (by intro k hk hmm; simp at hmm; cases hk; exact hqr hmm)
      have hrowa := own_chg hrow1 ((Chg.refl [] w1).alloc (.cells #[sv x] 9)) (by simp)
      have hrB0 : w.heap.size ≤ rB := by have := HRB.out.1; have := HRB.out.2; omega
      have hcw1 : Hid (Chg [] w w1) := (hcw.out.none.trans hc1).less (fun z hz => by simp at hz; subst hz; exact .inr hrB0)
      have hbase : w.heap.size ≤ (w1.alloc (.cells #[sv x] 9)).heap.size := by have := hcw1.out.size; simp; omega
      have hcst : ∀ ad, (some ⟨w1.heap.size, 0, none⟩ : Option Addr) = some ad → ∀ j z, ([sv x] : List Value)[j]? = some z → (w1.alloc (.cells #[sv x] 9)).cell? (ad.add j) = some z := by
        intro ad had; cases had; exact cell_str w1 x
      have hMlt1 : M < w1.heap.size := by have := hcw1.out.size; omega
      have hrlt : rB < w1.heap.size := hrg1.out.lt
      clear hrg' hrg hgot hkx hx' hv hat1 hg1 hs1 hlx hrow1 hc1
      go_wp2_with (at_builtin; (refine wpl_app3 rfl (.tmp 18) (.tmp 20) 59 rfl w.heap.size 9 (.string ByteArray.empty) 1 16 (by kernel_rfl) info9 rfl (by decide) (by decide) (.slice (some ⟨q, 0, none⟩) l.length c) l.length (l.map sv) rfl hrowa (some ⟨w1.heap.size, 0, none⟩) 1 1 [sv x] rfl rfl (by intro h; cases h) hcst (by intro z hz; simp at hz; subst hz; rfl) (by omega) hbase ?_; intro v7 w7 ho7 hg7 hloc7; obtain ⟨q7, c7, rfl, hq7, hq7l⟩ := World.ownsRow.form ho7 (Nat.succ_pos _); have ho7 := Lib.hid ho7; have hloc7 := Lib.hid hloc7; have hg7 := Lib.hid hg7))
      have hq7' : q7 = q ∨ q7 = w1.heap.size + 1 := by
        rcases hloc7.out q7 rfl with h1 | h1
        · left; cases h1; rfl
        · right; rw [h1]; simp
      go_roundg cnt1
      case measure => omega
      case rel =>
        refine ⟨_, cnt1, l ++ [x], q7, c7, by simp, ?_, hgot1.out, ?_, ?_, Nat.le_refl _, by omega, by omega, by simp; omega⟩
        · exact (hrg1.out.alloc _).kept hg7.out (by simpa [Value.ownBlock] using Ne.symm hqM) (by simpa [Value.ownBlock] using Ne.symm hqr)
        · have := ho7.out
          show World.ownsRow w7 w.heap.size 9 1 (.slice (some ⟨q7, 0, none⟩) (l ++ [x]).length c7) (l ++ [x]).length ((l ++ [x]).map sv)
          simpa using this
        · exact (hcw1.out.alloc _).grown hg7.out (fun k hk => .inr (by cases hk; exact (hrow.out.lt q rfl).1))
end Go.Proofs.YtekndndhgkdggaaGreatDoor
