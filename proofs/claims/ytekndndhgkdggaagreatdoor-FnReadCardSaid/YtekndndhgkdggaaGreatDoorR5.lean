/- Fields and parts as they read in memory; the reference's printable. Lists of parts in memory that the call owns; lists of truths. The reference's printable. The reference's Read. -/
import Derived.Test.YtekndndhgkdggaaGreatDoorR3
import Derived.Test.YtekndndhgkdggaaGreatDoorR4
namespace Go.Proofs.YtekndndhgkdggaaGreatDoor
open Go.RowKit

def StrS (S : List Nat) (w : World) (v : Value) (ss : List Bs) : Prop :=
  ∃ a c, v = .slice a ss.length c ∧ ss.length ≤ c ∧ ((a = none ∧ ss = [] ∧ c = 0) ∨ ∃ b o, a = some ⟨b, o, none⟩ ∧ b ∉ S ∧ b < w.heap.size ∧ ∀ i, i < ss.length → w.cell? ⟨b, o + i, none⟩ = some (sv (ss.getD i [])))
def FldS (S : List Nat) (w : World) (v : Value) (fs : Flds) : Prop :=
  ∃ a c, v = .slice a fs.length c ∧ fs.length ≤ c ∧ ((a = none ∧ fs = [] ∧ c = 0) ∨ ∃ b, a = some ⟨b, 0, none⟩ ∧ b ∉ S ∧ b < w.heap.size ∧
    ∀ i, i < fs.length → w.cell? ⟨b, i * 2, none⟩ = some (sv (fs.getD i ([], [])).1) ∧ ∃ u, w.cell? ⟨b, i * 2 + 1, none⟩ = some u ∧ StrS S w u (fs.getD i ([], [])).2)
instance : Inhabited PartB := ⟨⟨[], [], 0⟩⟩
def PartS (S : List Nat) (w : World) (b i : Nat) (p : PartB) : Prop :=
  ∃ h u, w.cell? ⟨b, i * 3, none⟩ = some h ∧ w.cell? ⟨b, i * 3 + 1, none⟩ = some u ∧ w.cell? ⟨b, i * 3 + 2, none⟩ = some (.int .i64 (p.fault : Int)) ∧ FldS S w h p.fields ∧ BS S w u p.body

theorem StrS.chg {S : List Nat} {w w' : World} {v : Value} {ss : List Bs} (h : StrS S w v ss) (hc : Chg S w w') : StrS S w' v ss := by
  obtain ⟨a, c, hv, hl, h⟩ := h
  refine ⟨a, c, hv, hl, h.imp id ?_⟩
  rintro ⟨b, o, ha, hb, hlt, hs⟩
  exact ⟨b, o, ha, hb, Nat.lt_of_lt_of_le hlt hc.size, fun i hi => by rw [hc.cell (p := ⟨b, o + i, none⟩) hlt hb]; exact hs i hi⟩
theorem FldS.chg {S : List Nat} {w w' : World} {v : Value} {fs : Flds} (h : FldS S w v fs) (hc : Chg S w w') : FldS S w' v fs := by
  obtain ⟨a, c, hv, hl, h⟩ := h
  refine ⟨a, c, hv, hl, h.imp id ?_⟩
  rintro ⟨b, ha, hb, hlt, hs⟩
  refine ⟨b, ha, hb, Nat.lt_of_lt_of_le hlt hc.size, fun i hi => ?_⟩
  obtain ⟨h1, u, h2, h3⟩ := hs i hi
  exact ⟨by rw [hc.cell (p := ⟨b, i * 2, none⟩) hlt hb]; exact h1, u, by rw [hc.cell (p := ⟨b, i * 2 + 1, none⟩) hlt hb]; exact h2, h3.chg hc⟩
theorem StrS.add {S S' : List Nat} {w : World} {v : Value} {ss : List Bs} (h : StrS S w v ss) (hs : ∀ x, x ∈ S' → x ∈ S ∨ w.heap.size ≤ x) : StrS S' w v ss := by
  obtain ⟨a, c, hv, hl, h⟩ := h
  refine ⟨a, c, hv, hl, h.imp id ?_⟩
  rintro ⟨b, o, ha, hb, hlt, hc⟩
  exact ⟨b, o, ha, fun hm => (hs b hm).elim hb (fun h2 => absurd hlt (Nat.not_lt.2 h2)), hlt, hc⟩
theorem FldS.add {S S' : List Nat} {w : World} {v : Value} {fs : Flds} (h : FldS S w v fs) (hs : ∀ x, x ∈ S' → x ∈ S ∨ w.heap.size ≤ x) : FldS S' w v fs := by
  obtain ⟨a, c, hv, hl, h⟩ := h
  refine ⟨a, c, hv, hl, h.imp id ?_⟩
  rintro ⟨b, ha, hb, hlt, hc⟩
  refine ⟨b, ha, fun hm => (hs b hm).elim hb (fun h2 => absurd hlt (Nat.not_lt.2 h2)), hlt, fun i hi => ?_⟩
  obtain ⟨h1, u, h2, h3⟩ := hc i hi
  exact ⟨h1, u, h2, h3.add hs⟩

theorem StrS.of_own {w : World} {base : Nat} {v : Value} {n : Nat} {l : List Bs} {S : List Nat} (h : w.ownsRow base 9 1 v n (l.map sv)) (hS : ∀ g, v.ownBlock = some g → g ∉ S) : StrS S w v l := by
  obtain ⟨hlen, hor⟩ := id h
  have hn : l.length = n := by simpa using hlen
  rcases hor with ⟨rfl, rfl⟩ | ⟨g, cap, cur, rfl, hg, hh, hnc, hcm, hsz, htk⟩
  · have : l = [] := List.eq_nil_of_length_eq_zero hn
    subst this; exact ⟨none, 0, rfl, Nat.le_refl _, .inl ⟨rfl, rfl, rfl⟩⟩
  · refine ⟨_, cap, by rw [hn], by omega, .inr ⟨g, 0, rfl, hS g rfl, (h.lt g rfl).2, ?_⟩⟩
    intro i hi
    rw [Nat.zero_add, h.cellAt i (by omega)]
    simp [List.getD, List.getElem?_eq_getElem hi]
theorem FldS.of_own {w : World} {base : Nat} {v : Value} {gs : List GF} {S : List Nat} (h : OwnF base w v gs) (hS : ∀ x, x ∈ S → x ∉ blkF v gs) : FldS S w v (fsOf gs) := by
  have e : (fsOf gs).length = gs.length := by simp [fsOf]
  rcases h.row.2 with ⟨rfl, hn⟩ | ⟨g, cap, cur, rfl, hg, hh, hnc, hcm, hsz, htk⟩
  · have : gs = [] := List.eq_nil_of_length_eq_zero hn
    subst this; exact ⟨none, 0, rfl, Nat.le_refl _, .inl ⟨rfl, rfl, rfl⟩⟩
  · refine ⟨_, cap, by rw [e], by omega, .inr ⟨g, rfl, fun hm => hS g hm (mem_blkF.2 (.inl rfl)), (h.row.lt g rfl).2, ?_⟩⟩
    intro i hi
    rw [e] at hi
    have hsplit : gs = gs.take i ++ gs[i] :: gs.drop (i + 1) := by rw [← List.drop_eq_getElem_cons hi, List.take_append_drop]
    have hl : (gs.take i).length = i := by simp; omega
    have hg1 : (fsOf gs).getD i ([], []) = (gs[i].1, gs[i].2.1) := by simp [fsOf, List.getD, List.getElem?_eq_getElem hi]
    rw [hg1]
    have c0 := cellsF_at0 (gs.take i) (gs.drop (i + 1)) gs[i]
    have c1 := cellsF_at1 (gs.take i) (gs.drop (i + 1)) gs[i]
    rw [← hsplit, hl] at c0 c1
    refine ⟨(h.row.cellAt (i * 2) (by omega)).trans c0, gs[i].2.2, (h.row.cellAt (i * 2 + 1) (by omega)).trans c1, ?_⟩
    have hm : gs[i] ∈ gs := List.getElem_mem hi
    exact StrS.of_own (h.vals _ hm).1 (fun k hk hs => hS k hs (mem_blkF.2 (.inr ⟨_, hm, hk⟩)))

/-- the facts of element i -/
theorem FldS.at_ {S : List Nat} {w : World} {a : Option Addr} {n c : Nat} {fs : Flds} (h : FldS S w (.slice a n c) fs) : n = fs.length ∧ n ≤ c ∧ (0 < n → ∃ b, a = some ⟨b, 0, none⟩ ∧ b ∉ S ∧ b < w.heap.size ∧
    ∀ i, i < n → w.cell? ⟨b, i * 2, none⟩ = some (sv (fs.getD i ([], [])).1) ∧ ∃ u, w.cell? ⟨b, i * 2 + 1, none⟩ = some u ∧ StrS S w u (fs.getD i ([], [])).2) := by
  obtain ⟨a', c', hv, hl, h⟩ := h
  cases hv
  refine ⟨rfl, hl, fun hn => ?_⟩
  rcases h with ⟨rfl, rfl, rfl⟩ | h
  · simp at hn
  · exact h
theorem StrS.at_ {S : List Nat} {w : World} {a : Option Addr} {n c : Nat} {ss : List Bs} (h : StrS S w (.slice a n c) ss) : n = ss.length ∧ n ≤ c ∧ (0 < n → ∃ b o, a = some ⟨b, o, none⟩ ∧ b ∉ S ∧ b < w.heap.size ∧ ∀ i, i < n → w.cell? ⟨b, o + i, none⟩ = some (sv (ss.getD i []))) := by
  obtain ⟨a', c', hv, hl, h⟩ := h
  cases hv
  refine ⟨rfl, hl, fun hn => ?_⟩
  rcases h with ⟨rfl, rfl, rfl⟩ | h
  · simp at hn
  · exact h

theorem putB_ne (fs : Flds) (k v : Bs) (h : ∀ f ∈ fs, f.2 ≠ []) : ∀ f ∈ putB fs k v, f.2 ≠ [] := by
  induction fs with
  | nil => simp [putB]
  | cons g r ih =>
    intro f hf
    unfold putB at hf
    have hr := ih (fun f hf => h f (by simp [hf]))
    split at hf
    · rw [List.mem_cons] at hf; rcases hf with rfl | hf
      · exact h _ (by simp)
      · exact hr f hf
    · split at hf
      · rw [List.mem_cons] at hf; rcases hf with rfl | hf
        · simp
        · exact h _ (by simp [hf])
      · rw [List.mem_cons, List.mem_cons] at hf; rcases hf with rfl | rfl | hf
        · simp
        · exact h _ (by simp)
        · exact h _ (by simp [hf])
theorem hdrLoop_ne (fs : Flds) (rem : Bs) (h : ∀ f ∈ fs, f.2 ≠ []) : ∀ fs' r, hdrLoopB fs rem = .ok fs' r → (∀ f ∈ fs', f.2 ≠ []) ∧ r.length ≤ rem.length := by
  induction hm : rem.length using Nat.strongRecOn generalizing fs rem with
  | _ n ih =>
    intro fs' r hr
    subst hm
    rw [hdr_step] at hr
    cases hl : lineB rem with
    | done r0 =>
      rw [hl] at hr; cases hr
      refine ⟨h, ?_⟩
      unfold lineB at hl
      split at hl
      · cases hl
      · rename_i l r1 hh
        have := headLineB_lt hh
        simp only at this
        split at hl
        · cases hl; omega
        · split at hl
          · cases hl
          · split at hl
            · cases hl
            · split at hl
              · cases hl
              · split at hl
                · cases hl
                · split at hl <;> cases hl
    | early => rw [hl] at hr; cases hr
    | wrong => rw [hl] at hr; cases hr
    | field k v r0 =>
      rw [hl] at hr
      have hlt := lineB_lt hl
      have := ih r0.length hlt (putB fs k v) r0 (putB_ne fs k v h) rfl fs' r hr
      exact ⟨this.1, by omega⟩
theorem hdr_ne {rem : Bs} {fs' : Flds} {r : Bs} (h : hdrB rem = .ok fs' r) : (∀ f ∈ fs', f.2 ≠ []) ∧ r.length ≤ rem.length := by
  cases hb : hdBl rem with
  | true => rw [hdrB_true hb] at h; cases h
  | false => rw [hdrB_false hb] at h; exact hdrLoop_ne [] rem (by simp) fs' r h
end Go.Proofs.YtekndndhgkdggaaGreatDoor

namespace Go.Proofs.YtekndndhgkdggaaGreatDoor
open Go.RowKit

/-- a part's three cells -/
abbrev QP := Value × Value × Nat
def cellsP (qs : List QP) : List Value := qs.flatMap fun q => [q.1, q.2.1, .int .i64 (q.2.2 : Int)]
theorem cellsP_len (qs : List QP) : (cellsP qs).length = qs.length * 3 := by
  induction qs with
  | nil => rfl
  | cons g r ih => simp only [cellsP, List.flatMap_cons, List.length_append] at *; rw [ih]; simp; omega
theorem cellsP_app (a b : List QP) : cellsP (a ++ b) = cellsP a ++ cellsP b := by simp [cellsP]
theorem cellsP_one (q : QP) : cellsP [q] = [q.1, q.2.1, .int .i64 (q.2.2 : Int)] := by simp [cellsP]

def RelP (S : List Nat) (w : World) : List QP → List PartB → Prop
  | [], [] => True
  | q :: qs, p :: ps => (FldS S w q.1 p.fields ∧ BS S w q.2.1 p.body ∧ q.2.2 = p.fault) ∧ RelP S w qs ps
  | _, _ => False
theorem RelP.len {S : List Nat} {w : World} : ∀ {qs : List QP} {ps : List PartB}, RelP S w qs ps → qs.length = ps.length
  | [], [], _ => rfl
  | _ :: _, _ :: _, h => by simp [RelP.len h.2]
theorem RelP.chg {S : List Nat} {w w' : World} (hc : Chg S w w') : ∀ {qs : List QP} {ps : List PartB}, RelP S w qs ps → RelP S w' qs ps
  | [], [], _ => trivial
  | _ :: _, _ :: _, h => ⟨⟨h.1.1.chg hc, h.1.2.1.chg hc, h.1.2.2⟩, RelP.chg hc h.2⟩
theorem RelP.add {S S' : List Nat} {w : World} (hs : ∀ x, x ∈ S' → x ∈ S ∨ w.heap.size ≤ x) : ∀ {qs : List QP} {ps : List PartB}, RelP S w qs ps → RelP S' w qs ps
  | [], [], _ => trivial
  | _ :: _, _ :: _, h => ⟨⟨h.1.1.add hs, h.1.2.1.add S' hs, h.1.2.2⟩, RelP.add hs h.2⟩
theorem RelP.snoc {S : List Nat} {w : World} {q : QP} {p : PartB} (hq : FldS S w q.1 p.fields ∧ BS S w q.2.1 p.body ∧ q.2.2 = p.fault) : ∀ {qs : List QP} {ps : List PartB}, RelP S w qs ps → RelP S w (qs ++ [q]) (ps ++ [p])
  | [], [], _ => ⟨hq, trivial⟩
  | _ :: _, _ :: _, h => ⟨h.1, RelP.snoc hq h.2⟩
theorem RelP.at_ {S : List Nat} {w : World} : ∀ {qs : List QP} {ps : List PartB} (_h : RelP S w qs ps) (i : Nat) (_hi : i < ps.length), ∃ q, qs[i]? = some q ∧ FldS S w q.1 (ps.getD i default).fields ∧ BS S w q.2.1 (ps.getD i default).body ∧ q.2.2 = (ps.getD i default).fault
  | q :: _, _ :: _, h, 0, _ => ⟨q, by simp, by simpa using h.1⟩
  | _ :: qs, _ :: ps, h, i + 1, hi => by
    obtain ⟨q, h1, h2⟩ := RelP.at_ h.2 i (by simpa using hi)
    exact ⟨q, by simpa using h1, by simpa using h2⟩
  | [], [], _, _, hi => by cases hi
theorem cellsP_at (qs : List QP) (i : Nat) (q : QP) (h : qs[i]? = some q) : (cellsP qs)[i * 3]? = some q.1 ∧ (cellsP qs)[i * 3 + 1]? = some q.2.1 ∧ (cellsP qs)[i * 3 + 2]? = some (.int .i64 (q.2.2 : Int)) := by
  have hi : i < qs.length := by
    rcases Nat.lt_or_ge i qs.length with h2 | h2
    · exact h2
    · rw [List.getElem?_eq_none h2] at h; cases h
  have hq : qs[i] = q := by rw [List.getElem?_eq_getElem hi] at h; exact Option.some.inj h
  have hs : qs = qs.take i ++ q :: qs.drop (i + 1) := by rw [← hq, ← List.drop_eq_getElem_cons hi, List.take_append_drop]
  have hl : (cellsP (qs.take i)).length = i * 3 := by rw [cellsP_len]; simp; omega
  have e : cellsP qs = cellsP (qs.take i) ++ (q.1 :: q.2.1 :: .int .i64 (q.2.2 : Int) :: cellsP (qs.drop (i + 1))) := by
    conv => lhs; rw [hs]
    rw [cellsP_app]; simp [cellsP]
  rw [e]
  refine ⟨?_, ?_, ?_⟩
  all_goals
    rw [List.getElem?_append_right (by omega), hl]
    simp

/-- parts as they read -/
def PartsS (S : List Nat) (w : World) (v : Value) (ps : List PartB) : Prop :=
  ∃ a c, v = .slice a ps.length c ∧ ps.length ≤ c ∧ ((a = none ∧ ps = [] ∧ c = 0) ∨ ∃ b, a = some ⟨b, 0, none⟩ ∧ b ∉ S ∧ b < w.heap.size ∧ ∀ i, i < ps.length → PartS S w b i (ps.getD i default))

/-- a list of parts that the call owns -/
structure OwnP (R : List Nat) (base : Nat) (w : World) (v : Value) (qs : List QP) (ps : List PartB) : Prop where
  row : w.ownsRow base 44 3 v ps.length (cellsP qs)
  rel : RelP (v.ownBlock.toList ++ R) w qs ps

theorem PartsS.of_own {R : List Nat} {base : Nat} {w : World} {v : Value} {qs : List QP} {ps : List PartB} (h : OwnP R base w v qs ps) (hR : ∀ g, v.ownBlock = some g → g ∉ R) : PartsS R w v ps := by
  rcases h.row.2 with ⟨rfl, hn⟩ | ⟨g, cap, cur, rfl, hg, hh, hnc, hcm, hsz, htk⟩
  · have : ps = [] := List.eq_nil_of_length_eq_zero hn
    subst this; exact ⟨none, 0, rfl, Nat.le_refl _, .inl ⟨rfl, rfl, rfl⟩⟩
  · refine ⟨_, cap, rfl, hnc, .inr ⟨g, rfl, hR g rfl, (h.row.lt g rfl).2, ?_⟩⟩
    intro i hi
    obtain ⟨q, h1, h2, h3, h4⟩ := h.rel.at_ i hi
    obtain ⟨c0, c1, c2⟩ := cellsP_at qs i q h1
    refine ⟨q.1, q.2.1, (h.row.cellAt (i * 3) (by omega)).trans c0, (h.row.cellAt (i * 3 + 1) (by omega)).trans c1, by rw [(h.row.cellAt (i * 3 + 2) (by omega)).trans c2, h4], ?_, ?_⟩
    · exact h2.add (fun x hx => .inl (by simp [hx]))
    · exact h3.add _ (fun x hx => .inl (by simp [hx]))

theorem OwnP.keep {R : List Nat} {base : Nat} {w w' : World} {v : Value} {qs : List QP} {ps : List PartB} {S : List Nat} (h : OwnP R base w v qs ps) (hc : Chg S w w') (hS : ∀ x, x ∈ S → x ∈ R ∧ v.ownBlock ≠ some x) : OwnP R base w' v qs ps :=
  ⟨own_chg h.row hc (fun g hg hm => (hS g hm).2 hg), h.rel.chg (hc.mono (fun x hx => by simp [(hS x hx).1]))⟩

/-- one part more -/
theorem OwnP.snoc {R : List Nat} {base : Nat} {w w' : World} {v v' : Value} {qs : List QP} {ps : List PartB} {q : QP} {p : PartB} (h : OwnP R base w v qs ps) (hg : w.grownBy w' v.ownBlock)
    (hrow : w'.ownsRow base 44 3 v' (ps.length + 1) (cellsP qs ++ [q.1, q.2.1, .int .i64 (q.2.2 : Int)])) (hw : ∃ g c', v' = .slice (some ⟨g, 0, none⟩) (ps.length + 1) c' ∧ (some g = v.ownBlock ∨ g = w.heap.size))
    (hq : FldS (v.ownBlock.toList ++ R) w q.1 p.fields ∧ BS (v.ownBlock.toList ++ R) w q.2.1 p.body ∧ q.2.2 = p.fault) : OwnP R base w' v' (qs ++ [q]) (ps ++ [p]) := by
  refine ⟨by rw [List.length_append, cellsP_app, cellsP_one]; exact hrow, ?_⟩
  have hc := Chg.of_grown hg
  have h1 : RelP (v.ownBlock.toList ++ R) w (qs ++ [q]) (ps ++ [p]) := h.rel.snoc hq
  obtain ⟨g, c', rfl, hw⟩ := hw
  have h2 : RelP (w.heap.size :: (v.ownBlock.toList ++ R)) w (qs ++ [q]) (ps ++ [p]) := h1.add (fun x hx => by
    rw [List.mem_cons] at hx; exact hx.elim (fun e => .inr (Nat.le_of_eq e.symm)) .inl)
  refine (h2.chg (hc.mono (fun x hx => by simp at hx; simp [hx]))).add (fun x hx => .inl ?_)
  simp [Value.ownBlock] at hx
  rcases hx with rfl | hx
  · rcases hw with hw | hw
    · simp [← hw]
    · simp [hw]
  · simp [hx]

theorem OwnP.nil (R : List Nat) (base : Nat) (w : World) (hb : base ≤ w.heap.size) : OwnP R base (w.alloc (.cells #[] 44)) (.slice (some ⟨w.heap.size, 0, none⟩) 0 0) [] [] :=
  ⟨World.ownsRow_made w #[] 0 hb (by unfold maxLen; omega) rfl, trivial⟩

/-- a list of truths that came in -/
def BoolS (w : World) (v : Value) (bs : List Bool) : Prop :=
  ∃ a c, v = .slice a bs.length c ∧ bs.length ≤ c ∧ (bs = [] ∨ ∃ b o, a = some ⟨b, o, none⟩ ∧ b < w.heap.size ∧ ∀ i, i < bs.length → w.cell? ⟨b, o + i, none⟩ = some (.bool (bs.getD i false)))
theorem BoolS.below {w w' : World} {v : Value} {bs : List Bool} (h : BoolS w v bs) (hc : Chg [] w w') : BoolS w' v bs := by
  obtain ⟨a, c, hv, hl, h⟩ := h
  refine ⟨a, c, hv, hl, h.imp id ?_⟩
  rintro ⟨b, o, ha, hlt, hs⟩
  exact ⟨b, o, ha, Nat.lt_of_lt_of_le hlt hc.size, fun i hi => by rw [hc.cell (p := ⟨b, o + i, none⟩) hlt (by simp)]; exact hs i hi⟩

theorem three_one (a b c : Value) (ha : a.oneCell' = true) (hb : b.oneCell' = true) (hc : c.oneCell' = true) : ∀ u ∈ [a, b, c], u.oneCell' = true := by
  intro u hu; simp at hu; rcases hu with rfl | rfl | rfl <;> assumption
theorem cell_three (w : World) (a b c : Value) (t : TypeId) : ∀ j u, [a, b, c][j]? = some u → (w.alloc (.cells #[a, b, c] t)).cell? ((⟨w.heap.size, 0, none⟩ : Addr).add j) = some u := by
  intro j u hj
  match j, hj with
  | 0, hj => simp at hj; subst hj; simp [Addr.add]
  | 1, hj => simp at hj; subst hj; simp [Addr.add]
  | 2, hj => simp at hj; subst hj; simp [Addr.add]
  | j + 3, hj => simp at hj
end Go.Proofs.YtekndndhgkdggaaGreatDoor

namespace Go.Proofs.YtekndndhgkdggaaGreatDoor
open Go.RowKit

theorem contB_len (kv rem : Bs) : ∀ p, contB kv rem = some p → p.1.length + p.2.length ≤ kv.length + rem.length := by
  induction h : rem.length using Nat.strongRecOn generalizing kv rem with
  | _ n ih =>
    intro p hp
    subst h
    cases rem with
    | nil => rw [contB_nil] at hp; cases hp; simp
    | cons c r =>
      cases hb : blankB c with
      | false => rw [contB_stop hb] at hp; cases hp; simp
      | true =>
        cases hh : headLineB (dropBl (c :: r)) with
        | none => rw [contB_early hb hh] at hp; cases hp
        | some q =>
          obtain ⟨m, r2⟩ := q
          rw [contB_more hb hh] at hp
          have h1 := headLineB_lt hh
          have h2 : (dropBl (c :: r)).length ≤ r.length := by rw [dropBl_cons, hb]; exact dropBl_len r
          have h3 := headLine_sum hh
          have h4 := trimB_len m
          have := ih r2.length (by simp only at h1; simp; omega) _ r2 rfl p hp
          simp at this ⊢; omega

theorem canonB_len (up : Bool) (l : Bs) : (canonB up l).length = l.length := by
  induction l generalizing up with
  | nil => rfl
  | cons c r ih => simp [canonB, ih]
theorem keyB_len {k k' : Bs} (h : keyB k = some k') : k'.length = k.length := by
  unfold keyB at h
  split at h
  · cases h; split
    · rfl
    · exact canonB_len _ _
  · cases h
theorem lineB_flen {rem k v r : Bs} (h : lineB rem = .field k v r) : k.length ≤ rem.length ∧ v.length ≤ rem.length ∧ r.length < rem.length := by
  refine ⟨?_, ?_, lineB_lt h⟩
  all_goals
    cases hh : headLineB rem with
    | none => rw [lineB_none hh] at h; cases h
    | some p =>
      obtain ⟨l, r1⟩ := p
      have hs := headLine_sum hh
      by_cases hl : l = []
      · subst hl; rw [lineB_done hh] at h; cases h
      · cases hc : l.contains 58 with
        | false => rw [lineB_wrong hh hl hc] at h; cases h
        | true =>
          rw [lineB_rest hh hl hc] at h
          cases hcb : contB (trimB l) r1 with
          | none => rw [hcb] at h; cases h
          | some q =>
            obtain ⟨kv, r2⟩ := q
            have hkl := contB_len _ _ _ hcb
            have ht := trimB_len l
            rw [hcb] at h
            unfold lineC lineD at h
            simp only at h hkl
            have hb : (beforeB kv).length ≤ kv.length := by unfold beforeB; exact (List.takeWhile_sublist _).length_le
            have ha : (dropBl (afterB kv)).length ≤ kv.length := by
              have h1 := dropBl_len (afterB kv)
              have h2 : (afterB kv).length ≤ kv.length := by
                unfold afterB; simp
                have := (List.dropWhile_suffix (l := kv) (fun x => x != 58)).length_le
                omega
              omega
            split at h
            · cases h
            · rename_i k' hk'
              have hkl2 := keyB_len hk'
              split at h
              · cases h
              · split at h
                · cases h; omega
                · cases h

theorem putB_lens (fs : Flds) (k v : Bs) (N : Nat) (h : ∀ f ∈ fs, f.1.length ≤ N ∧ ∀ s ∈ f.2, s.length ≤ N) (hk : k.length ≤ N) (hv : v.length ≤ N) : ∀ f ∈ putB fs k v, f.1.length ≤ N ∧ ∀ s ∈ f.2, s.length ≤ N := by
  induction fs with
  | nil => intro f hf; simp [putB] at hf; subst hf; simp [hk, hv]
  | cons g r ih =>
    intro f hf
    unfold putB at hf
    have hr := ih (fun f hf => h f (by simp [hf]))
    have hg := h g (by simp)
    split at hf
    · rw [List.mem_cons] at hf; rcases hf with rfl | hf
      · exact hg
      · exact hr f hf
    · split at hf
      · rw [List.mem_cons] at hf; rcases hf with rfl | hf
        · refine ⟨hk, fun s hs => ?_⟩
          rw [List.mem_append] at hs; rcases hs with hs | hs
          · exact hg.2 s hs
          · simp at hs; subst hs; exact hv
        · exact h _ (by simp [hf])
      · rw [List.mem_cons, List.mem_cons] at hf; rcases hf with rfl | rfl | hf
        · refine ⟨hk, fun s hs => ?_⟩
          simp at hs; subst hs; exact hv
        · exact hg
        · exact h _ (by simp [hf])
theorem hdrLoop_lens (N : Nat) (fs : Flds) (rem : Bs) (hN : rem.length ≤ N) (h : ∀ f ∈ fs, f.1.length ≤ N ∧ ∀ s ∈ f.2, s.length ≤ N) : ∀ fs' r, hdrLoopB fs rem = .ok fs' r → ∀ f ∈ fs', f.1.length ≤ N ∧ ∀ s ∈ f.2, s.length ≤ N := by
  induction hm : rem.length using Nat.strongRecOn generalizing fs rem with
  | _ n ih =>
    intro fs' r hr
    subst hm
    rw [hdr_step] at hr
    cases hl : lineB rem with
    | done r0 => rw [hl] at hr; cases hr; exact h
    | early => rw [hl] at hr; cases hr
    | wrong => rw [hl] at hr; cases hr
    | field k v r0 =>
      rw [hl] at hr
      obtain ⟨h1, h2, h3⟩ := lineB_flen hl
      exact ih r0.length h3 (putB fs k v) r0 (by omega) (putB_lens fs k v N h (by omega) (by omega)) rfl fs' r hr
theorem hdr_lens {rem : Bs} {fs' : Flds} {r : Bs} (h : hdrB rem = .ok fs' r) : ∀ f ∈ fs', f.1.length ≤ rem.length ∧ ∀ s ∈ f.2, s.length ≤ rem.length := by
  cases hb : hdBl rem with
  | true => rw [hdrB_true hb] at h; cases h
  | false => rw [hdrB_false hb] at h; exact hdrLoop_lens rem.length [] rem (Nat.le_refl _) (by simp) fs' r h

theorem low_eq (d : UInt8) : lowB d = if (65 ≤ (d.toNat : Int) ∧ (d.toNat : Int) ≤ 90) then d + 32 else d := by
  unfold lowB
  have e1 := u8ge d 65 65 rfl
  have e2 := u8le d 90 90 rfl
  by_cases h : 65 ≤ (d.toNat : Int) ∧ (d.toNat : Int) ≤ 90
  · rw [if_pos h, e1, e2]; simp [h.1, h.2]
  · rw [if_neg h, e1, e2, if_neg]; simp; omega

theorem index9' (l : Bs) (i : Nat) (d : UInt8) (h : i < l.length) (hd : l.getD i 0 = d) (w : World) : (Instr.index 9 (.string (bstr l)) (.int .i64 (i : Int))).run Tryz.prog w = .ok (bv d) w := by
  rw [← hd]; exact index9 l i h w

theorem printable_at : ∀ (fs : Flds) (k : Nat), (∀ j, j < k → (fs.getD j ([], [])).1 ≠ cteB) → k < fs.length → (fs.getD k ([], [])).1 = cteB → printableB fs = ((((fs.getD k ([], [])).2.headD []).map lowB) == qpB)
  | [], _, _, h, _ => by cases h
  | f :: r, 0, _, _, h => by
    have : f.1 = cteB := by simpa using h
    simp [printableB, this]
  | f :: r, k + 1, hn, hk, h => by
    have hf : f.1 ≠ cteB := by have := hn 0 (by omega); simpa using this
    rw [printableB, if_neg hf, printable_at r k (fun j hj => by have := hn (j + 1) (by omega); simpa using this) (by simpa using hk) (by simpa using h)]
    simp
theorem printable_none (fs : Flds) (h : ∀ j, j < fs.length → (fs.getD j ([], [])).1 ≠ cteB) : printableB fs = false := by
  induction fs with
  | nil => rfl
  | cons f r ih =>
    have hf : f.1 ≠ cteB := by have := h 0 (by simp); simpa using this
    rw [printableB, if_neg hf, ih (fun j hj => by have := h (j + 1) (by simp; omega); simpa using this)]

def NoCte (fs : Flds) (k : Nat) : Prop := ∀ j, j < k → (fs.getD j ([], [])).1 ≠ cteB

set_option maxRecDepth 100000 in
set_option maxHeartbeats 1000000 in
theorem printable_any {S : List Nat} {w : World} {v : Value} {fs : Flds} (h : FldS S w v fs) (hn : fs.length ≤ 100000) (hne : ∀ f ∈ fs, f.2 ≠ []) (hlen : ∀ f ∈ fs, ∀ s ∈ f.2, s.length ≤ 100000) :
    Calls Tryz.prog 12 #[v] w fun e w' => e = .returned (.bool (printableB fs)) ∧ Chg [] w w' := by
  obtain ⟨a, c, rfl, hlc, _⟩ := id h
  have H := Lib.hid h; clear h
  have HNE := Lib.hid hne; clear hne
  have HL := Lib.hid hlen; clear hlen
  generalize hres : printableB fs = res
  have HR := Lib.hid hres; clear hres
  go_enter Tryz.func12, Tryz.ntmps12
  go_wp2
  go_loopw [11] (fun i wz => ∃ k : Nat, k ≤ fs.length ∧ i = .int .i64 k ∧ NoCte fs k ∧ Chg [] w wz) (fun i _ => fs.length - (intOf i).toNat)
  case atStart => exact ⟨0, Nat.zero_le _, rfl, (fun j hj => by cases hj), Chg.refl _ _⟩
  case round =>
    obtain ⟨k, hk, rfl, hno, hch⟩ := hrel
    have HF := Lib.hid (H.out.chg (S := S) hch.none)
    have HNO := Lib.hid hno; clear hno
    have HCH := Lib.hid hch; clear hch
    by_cases hlt : k < fs.length
    · obtain ⟨b, rfl, _, hbl, hcells⟩ := HF.out.at_.2.2 (by omega)
      obtain ⟨c0, u, c1, hstr⟩ := hcells k hlt
      have hm : fs.getD k ([], []) ∈ fs := by simp [List.getD, List.getElem?_eq_getElem hlt]
      have hne := HNE.out _ hm
      have hsl := HL.out _ hm
      clear hcells
      generalize hf : fs.getD k ([], []) = f at *
      have HFK := Lib.hid hf; clear hf
      obtain ⟨fk, fv⟩ := f
      simp only at c0 hstr hne hsl
      by_cases hk1 : fk = cteB
      · have hk2 : (fk == [67, 111, 110, 116, 101, 110, 116, 45, 84, 114, 97, 110, 115, 102, 101, 114, 45, 69, 110, 99, 111, 100, 105, 110, 103]) = true := by rw [beq_iff_eq]; exact hk1
        have hres : ((fv.headD []).map lowB == qpB) = res := by
          rw [← HR.out, printable_at fs k HNO.out hlt (by rw [HFK.out]; exact hk1), HFK.out]
        have HRES := Lib.hid hres; clear hres hk1
        cases fv with
        | nil => exact absurd rfl hne
        | cons s fv =>
          have hs := hsl s (by simp)
          obtain ⟨a2, c2v, rfl, hl2, _⟩ := id hstr
          obtain ⟨b2, o2, rfl, _, hb2, hcs⟩ := hstr.at_.2.2 (by simp)
          have c2 : wr.cell? ⟨b2, o2, none⟩ = some (sv s) := by have := hcs 0 (by simp); simpa using this
          simp only [List.headD_cons] at HRES
          clear hcs hstr hsl hne hm
          simp only [List.length_cons] at *
          have hown0 := World.ownsRow_made (base := w.heap.size) (e := 5) (size := 1) (wr.alloc (.cells #[sv fk, .slice (some ⟨b2, o2, none⟩) (fv.length + 1) c2v] 61)) #[] 0 (by have := HCH.out.size; simp; omega) (by unfold maxLen; omega) rfl
          have hsz := HCH.out.size
          go_wp2
          clear c0 c1 c2
          go_loopw [6, 8, 25] (fun sm _ i wz => ∃ (j : Nat) (out : Bs), j ≤ s.length ∧ i = .int .i64 j ∧ out = (s.take j).map lowB ∧ wz.ownsRow w.heap.size 5 1 sm j (out.map bv) ∧ Chg [] w wz) (fun _ _ i _ => s.length - (intOf i).toNat)
          case atStart => exact ⟨0, [], Nat.zero_le _, rfl, by simp, by simpa using hown0, (HCH.out.alloc _).alloc _⟩
          case round =>
            clear hown0 HCH
            obtain ⟨j, out, hj, rfl, rfl, hown, hch⟩ := hrel
            have hsz9 := hch.size
            have HCH9 := Lib.hid hch; clear hch
            by_cases hlj : j < s.length
            · have hix := fun wy => index9' s j (s.getD j 0) hlj rfl wy
              have hst : (s.take (j + 1)).map lowB = (s.take j).map lowB ++ [lowB (s.getD j 0)] := by
                rw [List.take_succ_eq_append_getElem hlj, List.map_append]; simp [List.getD, List.getElem?_eq_getElem hlj]
              have h255 : ((s.getD j 0).toNat : Int) ≤ 255 := by have := (s.getD j 0).toNat_lt; omega
              have hlow := low_eq (s.getD j 0)
              generalize s.getD j 0 = d at *
              generalize (s.take j).map lowB = out at *
              have HST := Lib.hid hst; clear hst
              by_cases hr : 65 ≤ (d.toNat : Int) ∧ (d.toNat : Int) ≤ 90
              · obtain ⟨r1, r2⟩ := hr
                rw [if_pos ⟨r1, r2⟩] at hlow
                obtain ⟨d2, hd2, hdd⟩ : ∃ d2 : UInt8, d2 = d + 32 ∧ (d.toNat : Int) + 32 = d2.toNat := ⟨d + 32, rfl, by have := add32 d r2; simp only [bv, Value.int.injEq, true_and] at this; exact this⟩
                rw [← hd2] at hlow
                have HLW := Lib.hid hlow; clear hlow hd2
                go_wp2_with (at_builtin; refine wpl_app_bytes rfl (.tmp 39) (.tmp 41) rfl w.heap.size _ j out rfl (hown.alloc _) [] _ [d2] rfl (BS.one _ d2) (by simp; omega) (by simp; omega) ?_; intro v' w1 hown1 hgrow1 _)
                go_roundw
                case rel => exact ⟨j + 1, _, by omega, by go_num, rfl, by rw [HST.out, HLW.out]; exact hown1, (HCH9.out.alloc _).grown hgrow1 (fun g hg => .inr (hown.lt g hg).1)⟩
                case measure => simp [intOf]; omega
              · rw [if_neg hr] at hlow
                have HLW := Lib.hid hlow; clear hlow
                have hr2 : (d.toNat : Int) < 65 ∨ 90 < (d.toNat : Int) := by omega
                clear hr
                rcases hr2 with r1 | r1
                all_goals
                  go_wp2_with (at_builtin; refine wpl_app_bytes rfl (.tmp 39) (.tmp 41) rfl w.heap.size _ j out rfl (hown.alloc _) [] _ [d] rfl (BS.one _ d) (by simp; omega) (by simp; omega) ?_; intro v' w1 hown1 hgrow1 _)
                  go_roundw
                  case rel => exact ⟨j + 1, _, by omega, by go_num, rfl, by rw [HST.out, HLW.out]; exact hown1, (HCH9.out.alloc _).grown hgrow1 (fun g hg => .inr (hown.lt g hg).1)⟩
                  case measure => simp [intOf]; omega
            · have hje : j = s.length := by omega
              subst hje
              rw [List.take_length] at hown
              have hconv := conv22_9 (BS.of_own (S := []) hown (by simp))
              have hq : (s.map lowB == [113, 117, 111, 116, 101, 100, 45, 112, 114, 105, 110, 116, 97, 98, 108, 101]) = res := HRES.out
              go_wp2
              go_ret
              exact ⟨rfl, HCH9.out⟩
      · have hk2 : (fk == [67, 111, 110, 116, 101, 110, 116, 45, 84, 114, 97, 110, 115, 102, 101, 114, 45, 69, 110, 99, 111, 100, 105, 110, 103]) = false := by rw [beq_eq_false_iff_ne]; exact hk1
        obtain ⟨a2, c2, rfl, _⟩ := hstr
        have HK := Lib.hid hk1; clear hk1 hsl hne hm
        go_wp2
        go_roundw
        case rel =>
          refine ⟨k + 1, by omega, by go_num, ?_, ?_⟩
          · intro j hj
            by_cases e : j = k
            · subst e; rw [HFK.out]; exact HK.out
            · exact HNO.out j (by omega)
          · exact HCH.out.alloc _
        case measure => simp [intOf]; omega
    · have hke : k = fs.length := by omega
      have HKE := Lib.hid hke; clear hke
      go_wp2
      go_ret
      refine ⟨ret_bool ?_, HCH.out⟩
      rw [← HR.out, printable_none fs (by rw [← HKE.out]; exact HNO.out)]
end Go.Proofs.YtekndndhgkdggaaGreatDoor

namespace Go.Proofs.YtekndndhgkdggaaGreatDoor
open Go.RowKit

/-- what the reference's Read leaves -/
def SpecPost (w : World) (res : Option (List PartB × Nat)) (e : Ending) (w' : World) : Prop :=
  match res with
  | none => ∃ v, e = .returned (.tuple #[v, .int .i64 0, .bool false]) ∧ Chg [] w w'
  | some (ps, how) => ∃ v, e = .returned (.tuple #[v, .int .i64 (how : Int), .bool true]) ∧ PartsS [] w' v ps ∧ Chg [] w w'

def SInv (w : World) (RB : Nat) (bd : Bs) (raw : Bool) (which : List Bool) (res : Option (List PartB × Nat)) (v : Value) (wr : World) (n : Nat) (qs : List QP) (ps : List PartB) (nl rem : Bs) (T : List Nat) : Prop :=
  OwnP [RB] w.heap.size wr v qs ps ∧ ps.length = n ∧ n ≤ 200 ∧ RdS T wr RB rem bd nl n ∧ (∀ b, v.ownBlock = some b → b ∈ T) ∧ (0 < nl.length ∧ nl.length ≤ 2) ∧ rem.length ≤ 10000 ∧ readB bd raw which (200 - n) ps nl rem = res ∧ Chg [] w wr ∧ w.heap.size ≤ RB

theorem SInv.done {w : World} {RB : Nat} {bd : Bs} {raw : Bool} {which : List Bool} {res : Option (List PartB × Nat)} {v : Value} {wr w' : World} {n : Nat} {qs : List QP} {ps : List PartB} {nl rem : Bs} {T : List Nat}
    (h : SInv w RB bd raw which res v wr n qs ps nl rem T) (hc : Chg [RB] wr w') : PartsS [] w' v ps ∧ Chg [] w w' := by
  obtain ⟨h1, h2, h3, h4, h5, h6, h7, h8, h9, h10⟩ := h
  have hk : OwnP [RB] w.heap.size w' v qs ps := h1.keep hc (fun x hx => by
    simp at hx; subst hx
    exact ⟨by simp, fun e => by have := h5 _ e; exact h4.1 this⟩)
  refine ⟨?_, h9.thn hc (fun x hx => by simp at hx; subst hx; exact .inr h10)⟩
  have := PartsS.of_own hk (fun g hg hm => by simp at hm; subst hm; exact h4.1 (h5 _ hg))
  obtain ⟨a, c, hv, hl, hor⟩ := this
  refine ⟨a, c, hv, hl, hor.imp id ?_⟩
  rintro ⟨b, ha, _, hlt, hs⟩
  refine ⟨b, ha, by simp, hlt, fun i hi => ?_⟩
  obtain ⟨hh, u, p1, p2, p3, p4, p5⟩ := hs i hi
  exact ⟨hh, u, p1, p2, p3, p4.add (by simp), p5.add [] (by simp)⟩

theorem readB_succ (bd : Bs) (raw : Bool) (which : List Bool) (k : Nat) (out : List PartB) (nl rem : Bs) : readB bd raw which (k + 1) out nl rem =
    if (nextB bd out.length false nl rem).1 then
      match hdrB (nextB bd out.length false nl rem).2.2.1 with
      | .early => some (out, 0)
      | .wrong => some (out, 2)
      | .ok fs rem1 =>
        if !raw && printableB fs then none
        else
          readB bd raw which k (out ++ [if which.length ≠ 0 && which.getD (out.length % which.length) false then ⟨fs, [], 0⟩ else ⟨fs, rem1.take (bodyB bd (nextB bd out.length false nl rem).2.2.2 rem1).1, (bodyB bd (nextB bd out.length false nl rem).2.2.2 rem1).2⟩])
            (nextB bd out.length false nl rem).2.2.2 (rem1.drop (bodyB bd (nextB bd out.length false nl rem).2.2.2 rem1).1)
    else some (out, (nextB bd out.length false nl rem).2.1) := by
  rw [readB]; rfl

theorem nextB_nl (bd : Bs) (parts : Nat) (soon : Bool) (nl rem : Bs) (h : 0 < nl.length ∧ nl.length ≤ 2) : (0 < (nextB bd parts soon nl rem).2.2.2.length ∧ (nextB bd parts soon nl rem).2.2.2.length ≤ 2) ∧ (nextB bd parts soon nl rem).2.2.1.length ≤ rem.length := by
  induction hm : rem.length using Nat.strongRecOn generalizing soon nl rem with
  | _ n ih =>
    subst hm
    have hl := takeLine_len rem
    cases he : (takeLine rem).2.2 with
    | false =>
      rw [nextB_off he]
      split <;> exact ⟨h, by simp⟩
    | true =>
      have hn := @nlB_len bd nl (takeLine rem).1 parts h
      have hp : 0 < (takeLine rem).1.length := List.length_pos_iff.2 (takeLine_ended he)
      rw [nextB_on he]
      split
      · exact ⟨hn, by simp only; omega⟩
      · split
        · exact ⟨hn, by simp only; omega⟩
        · split
          · exact ⟨hn, by simp only; omega⟩
          · split
            · have := ih (takeLine rem).2.1.length (by omega) soon _ (takeLine rem).2.1 hn rfl; exact ⟨this.1, by omega⟩
            · split
              · have := ih (takeLine rem).2.1.length (by omega) true _ (takeLine rem).2.1 hn rfl; exact ⟨this.1, by omega⟩
              · exact ⟨hn, by simp only; omega⟩

theorem hdrLoop_count (fs : Flds) (rem : Bs) : ∀ fs' r, hdrLoopB fs rem = .ok fs' r → fs'.length ≤ fs.length + rem.length := by
  induction hm : rem.length using Nat.strongRecOn generalizing fs rem with
  | _ n ih =>
    intro fs' r hr
    subst hm
    rw [hdr_step] at hr
    cases hl : lineB rem with
    | done r0 => rw [hl] at hr; cases hr; omega
    | early => rw [hl] at hr; cases hr
    | wrong => rw [hl] at hr; cases hr
    | field k v r0 =>
      rw [hl] at hr
      have hlt := lineB_lt hl
      have := ih r0.length hlt (putB fs k v) r0 rfl fs' r hr
      have := putB_len fs k v
      omega
theorem hdr_count {rem : Bs} {fs' : Flds} {r : Bs} (h : hdrB rem = .ok fs' r) : fs'.length ≤ rem.length := by
  cases hb : hdBl rem with
  | true => rw [hdrB_true hb] at h; cases h
  | false => rw [hdrB_false hb] at h; have := hdrLoop_count [] rem fs' r h; simpa using this

/-- whether the part that comes is not read -/
def skipB (which : List Bool) (n : Nat) : Bool := which.length ≠ 0 && which.getD (n % which.length) false

set_option maxRecDepth 100000 in
set_option maxHeartbeats 400000 in
theorem next_empty {w : World} {RB : Nat} {v : Value} {x y : Value} (h : Blk w RB #[v, .string (bstr []), x, y] 36) :
    Calls Tryz.prog 10 #[.pointer (some ⟨RB, 0, none⟩)] w fun e w' => e = .returned (.tuple #[.bool false, .int .i64 2]) ∧ w = w' := by
  have g1 : w.cell? ⟨RB, 1, none⟩ = some (.string (bstr [])) := h.cell 1
  clear h
  go_enter Tryz.func10, Tryz.ntmps10
  go_wp2
  go_ret2
  exact ⟨rfl, rfl⟩

/-- the place in 'which' of the part that comes next -/
theorem bool_at {w : World} {a : Option Addr} {n c : Nat} {bs : List Bool} (h : BoolS w (.slice a n c) bs) (hn : 0 < n) : n = bs.length ∧ ∃ b o, a = some ⟨b, o, none⟩ ∧ b < w.heap.size ∧ ∀ i, i < n → w.cell? ⟨b, o + i, none⟩ = some (.bool (bs.getD i false)) := by
  obtain ⟨a', c', hv, hl, h⟩ := h
  cases hv
  refine ⟨rfl, ?_⟩
  rcases h with rfl | h
  · simp at hn
  · exact h

set_option maxRecDepth 100000 in
set_option maxHeartbeats 1000000 in
theorem specRead_any {w : World} {v wv : Value} {rem bd : Bs} {which : List Bool} (raw : Bool) (h : BS [] w v rem) (hw : BoolS w wv which) (hl : rem.length ≤ 3000) (hbd : bd.length ≤ 100) (hwl : which.length ≤ 50) :
    Calls Tryz.prog 5 #[v, .string (bstr bd), .bool raw, wv] w (SpecPost w (specB bd raw which rem)) := by
  generalize hres : specB bd raw which rem = res
  have HR := Lib.hid hres; clear hres
  obtain ⟨a, c, rfl, hlc, _⟩ := id h
  have hrd : RdS [w.heap.size + 1] ((w.alloc (.cells #[.slice a rem.length c, .string (bstr bd), .string (bstr [13, 10]), .int .i64 0] 36)).alloc (.cells #[] 44)) w.heap.size rem bd [13, 10] 0 := by
    refine ⟨by simp, _, (Blk.new w _ 36).alloc _, ?_⟩
    exact ((h.add [w.heap.size, w.heap.size + 1] (by intro x hx; simp at hx; rcases hx with rfl | rfl <;> right <;> omega)).chg (((Chg.refl _ w).alloc _).alloc _))
  have hop : OwnP [w.heap.size] w.heap.size ((w.alloc (.cells #[.slice a rem.length c, .string (bstr bd), .string (bstr [13, 10]), .int .i64 0] 36)).alloc (.cells #[] 44)) (.slice (some ⟨w.heap.size + 1, 0, none⟩) 0 0) [] [] := by
    have := OwnP.nil [w.heap.size] w.heap.size (w.alloc (.cells #[.slice a rem.length c, .string (bstr bd), .string (bstr [13, 10]), .int .i64 0] 36)) (by simp)
    simpa using this
  have hch : Chg [] w ((w.alloc (.cells #[.slice a rem.length c, .string (bstr bd), .string (bstr [13, 10]), .int .i64 0] 36)).alloc (.cells #[] 44)) := ((Chg.refl _ w).alloc _).alloc _
  have START := Lib.hid (And.intro hrd (And.intro hop hch)); clear hrd hop hch h
  obtain ⟨aw, cw, rfl, hwc, _⟩ := id hw
  have HWS := Lib.hid hw; clear hw
  by_cases hbe : bd = []
  · subst hbe
    have hb : Blk ((w.alloc (.cells #[.slice a rem.length c, .string (bstr []), .string (bstr [13, 10]), .int .i64 0] 36)).alloc (.cells #[] 44)) w.heap.size #[.slice a rem.length c, .string (bstr []), .string (bstr [13, 10]), .int .i64 0] 36 := (Blk.new w _ 36).alloc _
    have hres : some ([], 2) = res := by rw [← HR.out]; rfl
    have HRES := Lib.hid hres; clear hres HR HWS
    go_enter Tryz.func5, Tryz.ntmps5
    go_wp2
    refine wp_loop_rounds 1 ?_; rw [rounds_succ]
    go_wp2_with (go_at_call 10; refine (next_empty hb).mono ?_; rintro e w' ⟨rfl, rfl⟩)
    refine bodyPost_ret (v := .tuple #[.slice (some ⟨w.heap.size + 1, 0, none⟩) 0 0, .int .i64 2, .bool true]) (by simp [results, Tryz.results5, go_sem]) rfl ?_
    rw [← HRES.out]
    refine ⟨_, rfl, ?_, START.out.2.2⟩
    have := PartsS.of_own START.out.2.1 (fun g hg hm => by simp [Value.ownBlock] at hg; simp at hm; omega)
    obtain ⟨a9, c9, hv, hl9, hor⟩ := this
    exact ⟨a9, c9, hv, hl9, hor.imp id (fun ⟨b, ha, _, hlt, _⟩ => ⟨b, ha, by simp, hlt, fun i hi => by cases hi⟩)⟩
  · have hres : readB bd raw which 200 [] [13, 10] rem = res := by rw [← HR.out]; unfold specB; rw [if_neg hbe]
    have HRES := Lib.hid hres; clear hres HR
    have HBE := Lib.hid hbe; clear hbe
    go_enter Tryz.func5, Tryz.ntmps5
    go_wp2
    go_loopw [12] (fun v wr => ∃ n qs ps nl rem' T, SInv w w.heap.size bd raw which res v wr n qs ps nl rem' T) (fun v _ => 200 - lenV v)
    case atStart =>
      exact ⟨0, [], [], [13, 10], rem, [w.heap.size + 1], START.out.2.1, rfl, by omega, START.out.1, fun b hb => by simp [Value.ownBlock] at hb; subst hb; simp, by simp, by omega, HRES.out, START.out.2.2, Nat.le_refl _⟩
    case round =>
      clear START HRES
      obtain ⟨n, qs, ps, nl, rem', T, hinv⟩ := hrel
      obtain ⟨ag, cg, rfl, hcg⟩ : ∃ ag cg, u12 = .slice ag n cg ∧ n ≤ cg := by
        have hr := hinv.1.row
        rw [hinv.2.1] at hr
        rcases hr.2 with ⟨rfl, h0⟩ | ⟨g, cap, cur, rfl, _, _, hnc, _⟩
        · exact ⟨none, 0, by rw [h0], by omega⟩
        · exact ⟨_, _, rfl, hnc⟩
      have hn200 : n ≤ 200 := hinv.2.2.1
      have HI := Lib.hid hinv; clear hinv
      by_cases hlt : n < 200
      · have hi := HI.out
        have hnx := next_any hi.2.2.2.1 hi.2.2.2.2.2.2.1 (by omega) HBE.out (by omega) hi.2.2.2.2.2.1
        have hst := readB_succ bd raw which (199 - n) ps nl rem'
        rw [show 199 - n + 1 = 200 - n from by omega, hi.2.2.2.2.2.2.2.1, hi.2.1] at hst
        have hnn := nextB_nl bd n false nl rem' hi.2.2.2.2.2.1
        generalize nextB bd n false nl rem' = t at hnx hst hnn
        obtain ⟨is, how, r1, nl1⟩ := t
        simp only at hst hnn
        have HNX := Lib.hid hnx; clear hnx
        have hr1l : r1.length ≤ 10000 := by have := hi.2.2.2.2.2.2.1; omega
        clear hi
        cases is with
        | false =>
          have HST := Lib.hid hst; clear hst
          go_wp2_with fail
          refine HNX.out.mono ?_
          rintro e w1 ⟨rfl, _, hc1⟩
          go_wp2
          refine bodyPost_ret (v := .tuple #[.slice ag n cg, .int .i64 (how : Int), .bool true]) (by simp [results, Tryz.results5, go_sem]) rfl ?_
          rw [HST.out]
          have hd := HI.out.done hc1
          exact ⟨_, rfl, hd.1, hd.2⟩
        | true =>
          simp only [if_true] at hst
          go_wp2_with fail
          refine HNX.out.mono ?_
          rintro e w1 ⟨rfl, hrd1, hc1⟩
          simp only [if_true] at hrd1
          have hhd := header_any hrd1 hr1l
          have hr1lt := hrd1.lt
          generalize hq : hdrB r1 = q at hhd hst
          have HQ := Lib.hid hq; clear hq
          have HHD := Lib.hid hhd; clear hhd
          cases q with
          | early =>
            have HST := Lib.hid hst; clear hst
            go_wp2_with fail
            refine HHD.out.mono ?_
            rintro e w2 ⟨u, rfl, hc2⟩
            go_wp2
            refine bodyPost_ret (v := .tuple #[.slice ag n cg, .int .i64 0, .bool true]) (by simp [results, Tryz.results5, go_sem]) rfl ?_
            rw [HST.out]
            have hd := HI.out.done (hc1.trans hc2)
            exact ⟨_, rfl, hd.1, hd.2⟩
          | wrong =>
            have HST := Lib.hid hst; clear hst
            go_wp2_with fail
            refine HHD.out.mono ?_
            rintro e w2 ⟨u, rfl, hc2⟩
            go_wp2
            refine bodyPost_ret (v := .tuple #[.slice ag n cg, .int .i64 2, .bool true]) (by simp [results, Tryz.results5, go_sem]) rfl ?_
            rw [HST.out]
            have hd := HI.out.done (hc1.trans hc2)
            exact ⟨_, rfl, hd.1, hd.2⟩
          | ok fs r2 =>
            go_wp2_with fail
            refine HHD.out.mono ?_
            rintro e w2 ⟨hv, gs, T2, rfl, hof, hfs, hrd2, hST, hbT, hc2⟩
            have hqq := HQ.out
            have hnes := hdr_ne hqq
            have hlens := hdr_lens hqq
            have hcnt := hdr_count hqq
            obtain ⟨ah, nh, ch, rfl⟩ : ∃ ah nh ch, hv = .slice ah nh ch := by
              rcases hof.row.2 with ⟨rfl, _⟩ | ⟨g, cap, cur, rfl, _⟩
              · exact ⟨_, _, _, rfl⟩
              · exact ⟨_, _, _, rfl⟩
            have hbl := hof.blk
            have hfl := FldS.of_own (S := w.heap.size :: (Value.slice ag n cg).ownBlock.toList) hof (fun x hx hm => by
              have h1 := (hbl x hm).1
              rw [List.mem_cons] at hx
              rcases hx with rfl | hx
              · omega
              · have h2 := (HI.out.1.row.lt x (by simpa using hx)).2
                have h3 := hc1.size
                omega)
            rw [hfs] at hfl
            have hfl0 : FldS [] w2 (.slice ah nh ch) fs := hfl.add (by simp)
            have hpr := printable_any hfl0 (by omega) hnes.1 (fun f hf s hs => by have := (hlens f hf).2 s hs; omega)
            have HPR := Lib.hid hpr
            have K2 := Lib.hid (And.intro hfl (And.intro hrd2 (And.intro hST (hc1.trans hc2))))
            have hr2l : r2.length ≤ 10000 := by omega
            clear hpr hfl hfl0 hrd2 hST hbT hc2 hc1 hbl hnes hlens hcnt hqq hof hfs hrd1
            generalize hpp : printableB fs = pp at *
            have HST := Lib.hid hst; clear hst hpp
            go_upto_region 13 with (fail)
            go_cut [53] (fun s53 wz => s53 = .bool (!raw && pp) ∧ Chg [] w2 wz)
            case first =>
              cases raw with
              | true =>
                go_wp2
                go_meet
                exact ⟨rfl, Chg.refl _ _⟩
              | false =>
                go_wp2_with fail
                refine HPR.out.mono ?_
                rintro e w3 ⟨rfl, hc3⟩
                go_wp2
                go_meet
                exact ⟨rfl, hc3⟩
            case rest =>
              obtain ⟨rfl, hc3⟩ := hcut
              obtain ⟨wD, hwD⟩ : ∃ wD, wD = wc := ⟨_, rfl⟩
              subst hwD
              have hst := HST.out
              cases hrp : (!raw && pp) with
              | true =>
                rw [hrp] at hst
                have HST2 := Lib.hid hst; clear hst HST hrp
                go_wp2
                refine bodyPost_ret (v := .tuple #[.slice none 0 0, .int .i64 0, .bool false]) (by simp [results, Tryz.results5, go_sem]) rfl ?_
                rw [HST2.out]
                have hd := HI.out.done (K2.out.2.2.2)
                exact ⟨_, rfl, hd.2.trans hc3⟩
              | false =>
                rw [hrp] at hst
                simp only [Bool.false_eq_true, if_false] at hst
                clear hrp HST HPR
                have hbd1 := body_any (((K2.out.2.1.chg hc3.none).add (S' := wD.heap.size :: T2) (fun x hx => by rw [List.mem_cons] at hx; exact hx.elim (fun e => .inr (Nat.le_of_eq e.symm)) .inl)).chg ((Chg.refl _ wD).alloc (.cells #[.slice ah nh ch, .slice none 0 0, .int .i64 0] 44))) hr2l (by omega) hnn.1
                rw [← bodyB_eq] at hbd1
                generalize bodyB bd nl1 r2 = bb at hbd1 hst
                obtain ⟨bn, bf⟩ := bb
                have HBD := Lib.hid hbd1; clear hbd1
                have HST := Lib.hid hst; clear hst
                have HC3 := Lib.hid hc3; clear hc3
                have hwcRB : w.heap.size < wD.heap.size := by have h1 := HC3.out.size; have h2 := K2.out.2.2.2.size; have h3 := HI.out.2.2.2.1.lt; omega
                go_wp2_with fail
                refine HBD.out.mono ?_
                rintro e w4 ⟨⟨u, rfl, hu⟩, hrd4, hc4⟩
                obtain ⟨au, nu, cu, rfl⟩ : ∃ au nu cu, u = .slice au nu cu := by obtain ⟨a0, c0, rfl, _⟩ := hu; exact ⟨_, _, _, rfl⟩
                have hb4 : Blk w4 wD.heap.size #[.slice ah nh ch, .slice none 0 0, .int .i64 0] 44 := (Blk.new wD _ 44).chg hc4 (by simp; omega)
                have K4 := Lib.hid (And.intro hu (And.intro hrd4 hc4)); clear hu hrd4 hc4
                have hcw4 : Chg [] w w4 := (((HI.out.2.2.2.2.2.2.2.2.1.thn K2.out.2.2.2 (fun x hx => by simp at hx; subst hx; exact .inr (Nat.le_refl _))).trans HC3.out).alloc _).thn K4.out.2.2 (fun x hx => by simp at hx; subst hx; exact .inr (Nat.le_refl _))
                have hws4 := HWS.out.below hcw4
                have p1 : w4.cell? ⟨wD.heap.size, 1, none⟩ = some (.slice none 0 0) := hb4.cell 1
                have p2 : w4.cell? ⟨wD.heap.size, 2, none⟩ = some (.int .i64 0) := hb4.cell 2
                have q1 : w4.frozen? ⟨wD.heap.size, 1, none⟩ = false := hb4.free 1
                have q2 : w4.frozen? ⟨wD.heap.size, 2, none⟩ = false := hb4.free 2
                have HB4 := Lib.hid hb4; clear hb4
                have HCW := Lib.hid hcw4; clear hcw4
                have HST5 := Lib.hid (show readB bd raw which (199 - n) (ps ++ [if skipB which n then ⟨fs, [], 0⟩ else ⟨fs, r2.take bn, bf⟩]) nl1 (r2.drop bn) = res from by rw [HST.out]; rfl)
                clear HST
                generalize hsk : skipB which n = sk at HST5
                have HSK := Lib.hid hsk; clear hsk
                go_upto_region 17 with (fail)
                go_cut [74] (fun s74 wz => s74 = .bool (!sk) ∧ wz = w4)
                case first =>
                  by_cases hw0 : which.length = 0
                  · have hz : ((which.length : Int) == 0) = true := by rw [beq_iff_eq]; omega
                    have hsk0 : sk = false := by rw [← HSK.out]; unfold skipB; simp [hw0]
                    have HW0 := Lib.hid hw0; clear hw0
                    subst hsk0
                    go_wp2
                    go_meet
                    exact ⟨rfl, rfl⟩
                  · have hz : ((which.length : Int) == 0) = false := by rw [beq_eq_false_iff_ne]; omega
                    obtain ⟨_, bw, ow, rfl, _, hcw⟩ := bool_at hws4 (by omega)
                    have hmod : n % which.length < which.length := Nat.mod_lt _ (by omega)
                    have hcb := hcw (n % which.length) hmod
                    have hsk0 : sk = which.getD (n % which.length) false := by rw [← HSK.out]; unfold skipB; simp [hw0]
                    generalize which.getD (n % which.length) false = bb at *
                    subst hsk0
                    have hpos : 0 < which.length := by omega
                    have HW0 := Lib.hid hw0; clear hw0 hcw hws4
                    cases sk with
                    | true =>
                      go_wp2
                      go_meet
                      exact ⟨rfl, rfl⟩
                    | false =>
                      go_wp2
                      go_meet
                      exact ⟨rfl, rfl⟩
                case rest =>
                  obtain ⟨rfl, hwz⟩ := hcut
                  have hwz2 := hwz.symm
                  subst hwz2
                  clear hws4
                  cases sk with
                  | true =>
                    have hsz4 := K4.out.2.2.size
                    have hP4 : wD.heap.size < w4.heap.size := HB4.out.lt
                    have hb5 : Blk w4 wD.heap.size #[.slice ah nh ch, (.slice none 0 0), .int .i64 ((0 : Nat) : Int)] 44 := HB4.out
                    have c24 : Chg [w.heap.size] w2 w4 := ((HC3.out.none).alloc _).trans K4.out.2.2
                    have c25 : Chg [w.heap.size] w2 w4 := c24
                    have cr5 : Chg [w.heap.size] wr w4 := K2.out.2.2.2.trans c25
                    have hop5 := HI.out.1.keep cr5 (fun x hx => by simp at hx; subst hx; exact ⟨by simp, fun e => HI.out.2.2.2.1.1 (HI.out.2.2.2.2.1 _ e)⟩)
                    have hrow5 := hop5.row
                    rw [HI.out.2.1] at hrow5
                    have hfl5 : FldS ((Value.slice ag n cg).ownBlock.toList ++ [w.heap.size]) w4 (.slice ah nh ch) fs := (K2.out.1.chg (c25.mono (fun x hx => by simp at hx; simp [hx]))).add (fun x hx => .inl (by simp at hx ⊢; exact hx.symm))
                    have cd5 : Chg (w.heap.size :: wD.heap.size :: T2) w4 w4 := Chg.refl _ _
                    have hbs5 : BS ((Value.slice ag n cg).ownBlock.toList ++ [w.heap.size]) w4 (.slice none 0 0) [] := BS.nil _ _
                    have hrd5 : RdS (wD.heap.size :: T2) w4 w.heap.size (r2.drop bn) bd nl1 (n + 1) := K4.out.2.1.chg (Chg.refl _ _)
                    have cw5 : Chg [] w w4 := HI.out.2.2.2.2.2.2.2.2.1.thn cr5 (fun x hx => by simp at hx; subst hx; exact .inr (Nat.le_refl _))
                    have hwsz := cw5.size
                    have g0 := hb5.cell 0
                    have g1 := hb5.cell 1
                    have g2 := hb5.cell 2
                    have K5 := Lib.hid (And.intro hop5 (And.intro hfl5 (And.intro hbs5 (And.intro hrd5 (And.intro cw5 hb5)))))
                    clear hop5 hfl5 hbs5 hrd5 cw5 hb5 cd5 cr5 c25 c24
                    go_wp2_with (at_builtin; refine wpl_app2 rfl (.tmp 79) (.tmp 81) 23 rfl w.heap.size 44 (.agg #[.slice none 0 0, .slice none 0 0, .int .i64 0]) 3 56 (by kernel_rfl) info44 rfl (by decide) (by decide) (.slice ag n cg) n (cellsP qs) rfl (hrow5.alloc _) ⟨w4.heap.size, 0, none⟩ 1 1 [.slice ah nh ch, (.slice none 0 0), .int .i64 ((0 : Nat) : Int)] rfl rfl (cell_three w4 _ _ _ 44) (three_one _ _ _ rfl rfl rfl) (by decide) (by omega) (by simp; omega) ?_; intro v6 w6 hown6 hgrow6 hwh6)
                    have hA := K5.out.1.keep ((Chg.refl [] w4).alloc (.cells #[.slice ah nh ch, (.slice none 0 0), .int .i64 ((0 : Nat) : Int)] 44)) (by simp)
                    have hsn := OwnP.snoc (p := ⟨fs, [], 0⟩) (q := (.slice ah nh ch, (.slice none 0 0), 0)) hA hgrow6 (by rw [HI.out.2.1]; exact hown6) (by rw [HI.out.2.1]; exact hwh6)
                      ⟨K5.out.2.1.chg ((Chg.refl _ _).alloc _), K5.out.2.2.1.chg ((Chg.refl _ _).alloc _), rfl⟩
                    have hg6 := Chg.of_grown hgrow6
                    have hrowT : ∀ b, (Value.slice ag n cg).ownBlock = some b → b ∈ wD.heap.size :: T2 := fun b hb => List.mem_cons_of_mem _ (K2.out.2.2.1 _ (HI.out.2.2.2.2.1 b hb))
                    have hrd6 : RdS ((w4.alloc (.cells #[.slice ah nh ch, (.slice none 0 0), .int .i64 ((0 : Nat) : Int)] 44)).heap.size :: wD.heap.size :: T2) w6 w.heap.size (r2.drop bn) bd nl1 (n + 1) :=
                      (((K5.out.2.2.2.1.chg ((Chg.refl _ _).alloc _)).add (fun x hx => by rw [List.mem_cons] at hx; exact hx.elim (fun e => .inr (Nat.le_of_eq e.symm)) .inl)).chg (hg6.mono (fun x hx => List.mem_cons_of_mem _ (hrowT x (by simpa using hx)))))
                    have hcw6 : Chg [] w w6 := (K5.out.2.2.2.2.1.alloc _).thn hg6 (fun x hx => .inr (HI.out.1.row.lt x (by simpa using hx)).1)
                    have hlv6 : lenV v6 = n + 1 := by obtain ⟨g6, c6, rfl, _⟩ := hwh6; rfl
                    have hvT : ∀ b, v6.ownBlock = some b → b ∈ ((w4.alloc (.cells #[.slice ah nh ch, (.slice none 0 0), .int .i64 ((0 : Nat) : Int)] 44)).heap.size :: wD.heap.size :: T2) := by
                      intro b hb
                      obtain ⟨g6, c6, rfl, hw⟩ := hwh6
                      simp [Value.ownBlock] at hb
                      subst hb
                      rcases hw with hw | hw
                      · exact List.mem_cons_of_mem _ (hrowT _ hw.symm)
                      · rw [hw]; exact List.mem_cons_self
                    have hin6 : SInv w w.heap.size bd raw which res v6 w6 (n + 1) (qs ++ [(.slice ah nh ch, (.slice none 0 0), 0)]) (ps ++ [⟨fs, [], 0⟩]) nl1 (r2.drop bn) ((w4.alloc (.cells #[.slice ah nh ch, (.slice none 0 0), .int .i64 ((0 : Nat) : Int)] 44)).heap.size :: wD.heap.size :: T2) :=
                      ⟨hsn, by simp [HI.out.2.1], by omega, hrd6, hvT, hnn.1, by simp; omega, by have e := HST5.out; rw [show 200 - (n + 1) = 199 - n from by omega]; exact e, hcw6, Nat.le_refl _⟩
                    have HIN6 := Lib.hid (And.intro hin6 hlv6)
                    clear hA hsn hg6 hrowT hrd6 hcw6 hlv6 hvT hin6 hown6 hgrow6 hwh6
                    go_roundw
                    case rel => exact ⟨_, _, _, _, _, _, HIN6.out.1⟩
                    case measure => rw [HIN6.out.2]; simp [lenV]; omega
                  | false =>
                    have hsz4 := K4.out.2.2.size
                    have hP4 : wD.heap.size < w4.heap.size := HB4.out.lt
                    have hb5 : Blk ((w4.setCell ⟨wD.heap.size, 1, none⟩ (.slice au nu cu)).setCell ⟨wD.heap.size, 2, none⟩ (.int .i64 (bf : Int))) wD.heap.size #[.slice ah nh ch, (.slice au nu cu), .int .i64 ((bf : Nat) : Int)] 44 := (HB4.out.set 1 _).set 2 _
                    have c24 : Chg [w.heap.size] w2 w4 := ((HC3.out.none).alloc _).trans K4.out.2.2
                    have c25 : Chg [w.heap.size] w2 ((w4.setCell ⟨wD.heap.size, 1, none⟩ (.slice au nu cu)).setCell ⟨wD.heap.size, 2, none⟩ (.int .i64 (bf : Int))) := (c24.setCell (.inr HC3.out.size) _).setCell (.inr HC3.out.size) _
                    have cr5 : Chg [w.heap.size] wr ((w4.setCell ⟨wD.heap.size, 1, none⟩ (.slice au nu cu)).setCell ⟨wD.heap.size, 2, none⟩ (.int .i64 (bf : Int))) := K2.out.2.2.2.trans c25
                    have hop5 := HI.out.1.keep cr5 (fun x hx => by simp at hx; subst hx; exact ⟨by simp, fun e => HI.out.2.2.2.1.1 (HI.out.2.2.2.2.1 _ e)⟩)
                    have hrow5 := hop5.row
                    rw [HI.out.2.1] at hrow5
                    have hfl5 : FldS ((Value.slice ag n cg).ownBlock.toList ++ [w.heap.size]) ((w4.setCell ⟨wD.heap.size, 1, none⟩ (.slice au nu cu)).setCell ⟨wD.heap.size, 2, none⟩ (.int .i64 (bf : Int))) (.slice ah nh ch) fs := (K2.out.1.chg (c25.mono (fun x hx => by simp at hx; simp [hx]))).add (fun x hx => .inl (by simp at hx ⊢; exact hx.symm))
                    have cd5 : Chg (w.heap.size :: wD.heap.size :: T2) w4 ((w4.setCell ⟨wD.heap.size, 1, none⟩ (.slice au nu cu)).setCell ⟨wD.heap.size, 2, none⟩ (.int .i64 (bf : Int))) := ((Chg.refl _ _).setCell (.inl (by simp)) _).setCell (.inl (by simp)) _
                    have hbs5 : BS ((Value.slice ag n cg).ownBlock.toList ++ [w.heap.size]) ((w4.setCell ⟨wD.heap.size, 1, none⟩ (.slice au nu cu)).setCell ⟨wD.heap.size, 2, none⟩ (.int .i64 (bf : Int))) (.slice au nu cu) (r2.take bn) := (K4.out.1.chg cd5).mono (fun x hx => by simp at hx; rcases hx with hx | hx; exact List.mem_cons_of_mem _ (List.mem_cons_of_mem _ (K2.out.2.2.1 _ (HI.out.2.2.2.2.1 x hx))); simp [hx])
                    have hrd5 : RdS (wD.heap.size :: T2) ((w4.setCell ⟨wD.heap.size, 1, none⟩ (.slice au nu cu)).setCell ⟨wD.heap.size, 2, none⟩ (.int .i64 (bf : Int))) w.heap.size (r2.drop bn) bd nl1 (n + 1) := K4.out.2.1.chg (((Chg.refl _ _).setCell (.inl (by simp)) _).setCell (.inl (by simp)) _)
                    have cw5 : Chg [] w ((w4.setCell ⟨wD.heap.size, 1, none⟩ (.slice au nu cu)).setCell ⟨wD.heap.size, 2, none⟩ (.int .i64 (bf : Int))) := HI.out.2.2.2.2.2.2.2.2.1.thn cr5 (fun x hx => by simp at hx; subst hx; exact .inr (Nat.le_refl _))
                    have hwsz := cw5.size
                    have g0 := hb5.cell 0
                    have g1 := hb5.cell 1
                    have g2 := hb5.cell 2
                    have K5 := Lib.hid (And.intro hop5 (And.intro hfl5 (And.intro hbs5 (And.intro hrd5 (And.intro cw5 hb5)))))
                    clear hop5 hfl5 hbs5 hrd5 cw5 hb5 cd5 cr5 c25 c24
                    have hce := cell_three ((w4.setCell ⟨wD.heap.size, 1, none⟩ (.slice au nu cu)).setCell ⟨wD.heap.size, 2, none⟩ (.int .i64 (bf : Int))) (.slice ah nh ch) (.slice au nu cu) (.int .i64 ((bf : Nat) : Int)) 44
                    rw [show ((w4.setCell ⟨wD.heap.size, 1, none⟩ (.slice au nu cu)).setCell ⟨wD.heap.size, 2, none⟩ (.int .i64 (bf : Int))).heap.size = w4.heap.size from by simp [World.setCell]] at hce
                    go_wp2_with (at_builtin; refine wpl_app2 rfl (.tmp 79) (.tmp 81) 23 rfl w.heap.size 44 (.agg #[.slice none 0 0, .slice none 0 0, .int .i64 0]) 3 56 (by kernel_rfl) info44 rfl (by decide) (by decide) (.slice ag n cg) n (cellsP qs) rfl (hrow5.alloc _) ⟨w4.heap.size, 0, none⟩ 1 1 [.slice ah nh ch, (.slice au nu cu), .int .i64 ((bf : Nat) : Int)] rfl rfl hce (three_one _ _ _ rfl rfl rfl) (by decide) (by omega) (by simp; omega) ?_; intro v6 w6 hown6 hgrow6 hwh6)
                    have hA := K5.out.1.keep ((Chg.refl [] ((w4.setCell ⟨wD.heap.size, 1, none⟩ (.slice au nu cu)).setCell ⟨wD.heap.size, 2, none⟩ (.int .i64 (bf : Int)))).alloc (.cells #[.slice ah nh ch, (.slice au nu cu), .int .i64 ((bf : Nat) : Int)] 44)) (by simp)
                    have hsn := OwnP.snoc (p := ⟨fs, (r2.take bn), bf⟩) (q := (.slice ah nh ch, (.slice au nu cu), bf)) hA hgrow6 (by rw [HI.out.2.1]; exact hown6) (by rw [HI.out.2.1]; exact hwh6)
                      ⟨K5.out.2.1.chg ((Chg.refl _ _).alloc _), K5.out.2.2.1.chg ((Chg.refl _ _).alloc _), rfl⟩
                    have hg6 := Chg.of_grown hgrow6
                    have hrowT : ∀ b, (Value.slice ag n cg).ownBlock = some b → b ∈ wD.heap.size :: T2 := fun b hb => List.mem_cons_of_mem _ (K2.out.2.2.1 _ (HI.out.2.2.2.2.1 b hb))
                    have hrd6 : RdS ((((w4.setCell ⟨wD.heap.size, 1, none⟩ (.slice au nu cu)).setCell ⟨wD.heap.size, 2, none⟩ (.int .i64 (bf : Int))).alloc (.cells #[.slice ah nh ch, (.slice au nu cu), .int .i64 ((bf : Nat) : Int)] 44)).heap.size :: wD.heap.size :: T2) w6 w.heap.size (r2.drop bn) bd nl1 (n + 1) :=
                      (((K5.out.2.2.2.1.chg ((Chg.refl _ _).alloc _)).add (fun x hx => by rw [List.mem_cons] at hx; exact hx.elim (fun e => .inr (Nat.le_of_eq e.symm)) .inl)).chg (hg6.mono (fun x hx => List.mem_cons_of_mem _ (hrowT x (by simpa using hx)))))
                    have hcw6 : Chg [] w w6 := (K5.out.2.2.2.2.1.alloc _).thn hg6 (fun x hx => .inr (HI.out.1.row.lt x (by simpa using hx)).1)
                    have hlv6 : lenV v6 = n + 1 := by obtain ⟨g6, c6, rfl, _⟩ := hwh6; rfl
                    have hvT : ∀ b, v6.ownBlock = some b → b ∈ ((((w4.setCell ⟨wD.heap.size, 1, none⟩ (.slice au nu cu)).setCell ⟨wD.heap.size, 2, none⟩ (.int .i64 (bf : Int))).alloc (.cells #[.slice ah nh ch, (.slice au nu cu), .int .i64 ((bf : Nat) : Int)] 44)).heap.size :: wD.heap.size :: T2) := by
                      intro b hb
                      obtain ⟨g6, c6, rfl, hw⟩ := hwh6
                      simp [Value.ownBlock] at hb
                      subst hb
                      rcases hw with hw | hw
                      · exact List.mem_cons_of_mem _ (hrowT _ hw.symm)
                      · rw [hw]; exact List.mem_cons_self
                    have hin6 : SInv w w.heap.size bd raw which res v6 w6 (n + 1) (qs ++ [(.slice ah nh ch, (.slice au nu cu), bf)]) (ps ++ [⟨fs, (r2.take bn), bf⟩]) nl1 (r2.drop bn) ((((w4.setCell ⟨wD.heap.size, 1, none⟩ (.slice au nu cu)).setCell ⟨wD.heap.size, 2, none⟩ (.int .i64 (bf : Int))).alloc (.cells #[.slice ah nh ch, (.slice au nu cu), .int .i64 ((bf : Nat) : Int)] 44)).heap.size :: wD.heap.size :: T2) :=
                      ⟨hsn, by simp [HI.out.2.1], by omega, hrd6, hvT, hnn.1, by simp; omega, by have e := HST5.out; rw [show 200 - (n + 1) = 199 - n from by omega]; exact e, hcw6, Nat.le_refl _⟩
                    have HIN6 := Lib.hid (And.intro hin6 hlv6)
                    clear hA hsn hg6 hrowT hrd6 hcw6 hlv6 hvT hin6 hown6 hgrow6 hwh6
                    go_roundw
                    case rel => exact ⟨_, _, _, _, _, _, HIN6.out.1⟩
                    case measure => rw [HIN6.out.2]; simp [lenV]; omega
      · have hne : n = 200 := by omega
        have hst : res = some (ps, 3) := by
          rw [← HI.out.2.2.2.2.2.2.2.1, hne]; rfl
        have HST := Lib.hid hst; clear hst
        subst hne
        go_wp2
        refine bodyPost_ret (v := .tuple #[.slice ag 200 cg, .int .i64 3, .bool true]) (by simp [results, Tryz.results5, go_sem]) rfl ?_
        rw [HST.out]
        have hd := HI.out.done (Chg.refl _ _)
        exact ⟨_, rfl, hd.1, hd.2⟩
end Go.Proofs.YtekndndhgkdggaaGreatDoor
