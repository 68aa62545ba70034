/- The header's map: what it holds, key by key; its elements are rows of strings. bytes.TrimLeft by the shelf's contract, laid at this program in plain words. -/
import Derived.Test.YtekndndhgkdggaaGreatDoorR5
import Derived.Maps.RangeWalk
import Derived.ArgAppend
import Derived.WalkKit
import Derived.Shelf.Bytes.SlTrim
namespace Go.Proofs.YtekndndhgkdggaaGreatDoor
open Go.RowKit
open Go.Maps (Keyed)

theorem ltB_irr (a : Bs) : ltB a a = false := by
  induction a with
  | nil => rfl
  | cons x a ih => simp [ltB, ih]
theorem ltB_trans : ∀ {a b c : Bs}, ltB a b = true → ltB b c = true → ltB a c = true
  | [], [], _, h, _ => by simp [ltB] at h
  | [], _ :: _, [], _, h => by simp [ltB] at h
  | [], _ :: _, _ :: _, _, _ => rfl
  | _ :: _, [], _, h, _ => by simp [ltB] at h
  | _ :: _, _ :: _, [], _, h => by simp [ltB] at h
  | x :: a, y :: b, z :: c, h, k => by
    simp only [ltB, Bool.or_eq_true, decide_eq_true_eq, Bool.and_eq_true, beq_iff_eq] at h k ⊢
    rcases h with h | ⟨rfl, h⟩
    · rcases k with k | ⟨rfl, k⟩
      · exact .inl (UInt8.lt_trans h k)
      · exact .inl h
    · rcases k with k | ⟨rfl, k⟩
      · exact .inl k
      · exact .inr ⟨rfl, ltB_trans h k⟩
theorem ltB_tot : ∀ {a b : Bs}, ltB a b = false → a ≠ b → ltB b a = true
  | [], [], _, h => absurd rfl h
  | [], _ :: _, h, _ => by simp [ltB] at h
  | _ :: _, [], _, _ => rfl
  | x :: a, y :: b, h, hne => by
    simp only [ltB, Bool.or_eq_false_iff, decide_eq_false_iff_not, Bool.and_eq_false_iff, beq_eq_false_iff_ne] at h
    simp only [ltB, Bool.or_eq_true, decide_eq_true_eq, Bool.and_eq_true, beq_iff_eq]
    obtain ⟨h1, h2⟩ := h
    by_cases hxy : x = y
    · subst hxy
      right
      exact ⟨rfl, ltB_tot (h2.resolve_left (fun h => h rfl)) (fun e => hne (by rw [e]))⟩
    · left
      rw [UInt8.lt_iff_toNat_lt] at *
      have : x.toNat ≠ y.toNat := fun e => hxy (UInt8.toNat_inj.1 e)
      omega

def nilV : Value := .slice none 0 0
def valOf : List GF → Bs → Value
  | [], _ => nilV
  | g :: r, k => if g.1 = k then g.2.2 else valOf r k
def vsOf : List GF → Bs → List Bs
  | [], _ => []
  | g :: r, k => if g.1 = k then g.2.1 else vsOf r k
def putG (gs : List GF) (K V : Bs) (u : Value) : List GF :=
  match gs with
  | [] => [(K, [V], u)]
  | g :: r => if ltB g.1 K then g :: putG r K V u else if g.1 = K then (K, g.2.1 ++ [V], u) :: r else (K, [V], u) :: g :: r

def Srt (gs : List GF) : Prop := gs.Pairwise fun a b => ltB a.1 b.1 = true

theorem putG_fs (gs : List GF) (K V : Bs) (u : Value) : fsOf (putG gs K V u) = putB (fsOf gs) K V := by
  induction gs with
  | nil => rfl
  | cons g r ih =>
    unfold putG
    show _ = putB ((g.1, g.2.1) :: fsOf r) K V
    unfold putB
    split
    · show (g.1, g.2.1) :: fsOf (putG r K V u) = _; rw [ih]
    · split
      · rfl
      · rfl
theorem putG_val (gs : List GF) (K V : Bs) (u : Value) (k : Bs) : valOf (putG gs K V u) k = if k = K then u else valOf gs k := by
  induction gs with
  | nil =>
    by_cases h : k = K
    · subst h; simp [putG, valOf]
    · simp [putG, valOf, h, Ne.symm h]
  | cons g r ih =>
    unfold putG
    split
    · rename_i hlt
      have hne : g.1 ≠ K := fun e => by rw [e, ltB_irr] at hlt; cases hlt
      unfold valOf
      by_cases h : k = K
      · subst h; simp [hne, ih]
      · simp [ih, h]
    · split
      · rename_i h1 h2
        unfold valOf
        by_cases h : k = K
        · subst h; simp
        · simp [h, Ne.symm h, h2]
      · by_cases h : k = K
        · subst h; simp [valOf]
        · simp [valOf, h, Ne.symm h]
theorem putG_any (gs : List GF) (K V : Bs) (u : Value) (k : Bs) : (putG gs K V u).any (fun g => g.1 == k) = (k == K || gs.any (fun g => g.1 == k)) := by
  have e : ∀ a b : Bs, (a == b) = (b == a) := fun a b => BEq.comm
  induction gs with
  | nil => show ((K == k) || false) = ((k == K) || false); rw [e K k]
  | cons g r ih =>
    unfold putG
    split
    · rw [List.any_cons, List.any_cons, ih]
      cases (g.1 == k) <;> cases (k == K) <;> rfl
    · split
      · rename_i h2
        rw [List.any_cons, List.any_cons, h2]
        show ((K == k) || _) = _
        rw [e K k]
        cases (k == K) <;> rfl
      · rw [List.any_cons]
        show ((K == k) || _) = _
        rw [e K k]
theorem putG_len (gs : List GF) (K V : Bs) (u : Value) : (putG gs K V u).length ≤ gs.length + 1 := by
  induction gs with
  | nil => simp [putG]
  | cons g r ih =>
    unfold putG
    split
    · simp; omega
    · split <;> simp
theorem Srt.ne {g : GF} {r : List GF} (h : Srt (g :: r)) : ∀ x ∈ r, x.1 ≠ g.1 := fun x hx e => by
  have := (List.pairwise_cons.1 h).1 x hx
  rw [e, ltB_irr] at this; cases this
theorem putG_mem {gs : List GF} (hs : Srt gs) (K V : Bs) (u : Value) {g : GF} (h : g ∈ putG gs K V u) : (g ∈ gs ∧ g.1 ≠ K) ∨ g = (K, vsOf gs K ++ [V], u) := by
  induction gs with
  | nil => simp [putG] at h; right; simp [h, vsOf]
  | cons f r ih =>
    have hr : Srt r := (List.pairwise_cons.1 hs).2
    unfold putG at h
    split at h
    · rename_i hlt
      have hne : f.1 ≠ K := fun e => by rw [e, ltB_irr] at hlt; cases hlt
      rcases List.mem_cons.1 h with rfl | h
      · exact .inl ⟨by simp, hne⟩
      · rcases ih hr h with ⟨h1, h2⟩ | h1
        · exact .inl ⟨by simp [h1], h2⟩
        · right; rw [h1]; simp [vsOf, hne]
    · split at h
      · rename_i h2
        rcases List.mem_cons.1 h with rfl | h
        · right; simp [vsOf, h2]
        · left; exact ⟨by simp [h], by rw [← h2]; exact hs.ne g h⟩
      · rename_i h1 h2
        have hall : ∀ x ∈ f :: r, x.1 ≠ K := by
          intro x hx e
          rcases List.mem_cons.1 hx with rfl | hx
          · exact h2 e
          · have := (List.pairwise_cons.1 hs).1 x hx
            rw [e] at this; exact h1 this
        rcases List.mem_cons.1 h with rfl | h
        · right
          have hv : ∀ l : List GF, (∀ x ∈ l, x.1 ≠ K) → vsOf l K = [] := by
            intro l hl
            induction l with
            | nil => rfl
            | cons y l ihl => unfold vsOf; rw [if_neg (hl y (by simp))]; exact ihl (fun x hx => hl x (by simp [hx]))
          rw [hv _ hall]; rfl
        · exact .inl ⟨h, hall g h⟩
theorem putG_srt {gs : List GF} (hs : Srt gs) (K V : Bs) (u : Value) : Srt (putG gs K V u) := by
  induction gs with
  | nil => simp [putG, Srt]
  | cons f r ih =>
    have hr : Srt r := (List.pairwise_cons.1 hs).2
    have h1 := (List.pairwise_cons.1 hs).1
    unfold putG
    split
    · rename_i hlt
      refine List.pairwise_cons.2 ⟨fun x hx => ?_, ih hr⟩
      rcases putG_mem hr K V u hx with ⟨h2, _⟩ | rfl
      · exact h1 x h2
      · exact hlt
    · split
      · rename_i h2
        exact List.pairwise_cons.2 ⟨fun x hx => by rw [← h2]; exact h1 x hx, hr⟩
      · rename_i hlt h2
        have hKf := ltB_tot (by simpa using hlt) h2
        refine List.pairwise_cons.2 ⟨fun x hx => ?_, hs⟩
        rcases List.mem_cons.1 hx with rfl | hx
        · exact hKf
        · exact ltB_trans hKf (h1 x hx)
theorem putG_pair {gs : List GF} {R : GF → GF → Prop} (hsym : ∀ a b, R a b → R b a) (h : gs.Pairwise R) (hs : Srt gs) (K V : Bs) (u : Value) (hu : ∀ g ∈ gs, g.1 ≠ K → R g (K, vsOf gs K ++ [V], u)) : (putG gs K V u).Pairwise R := by
  have key : ∀ (l : List GF), Srt l → l.Pairwise R → (∀ g ∈ l, g.1 ≠ K → R g (K, vsOf l K ++ [V], u)) → (putG l K V u).Pairwise R := by
    intro l
    induction l with
    | nil => intro _ _ _; simp [putG]
    | cons f r ih =>
      intro hs h hu
      have hr : Srt r := (List.pairwise_cons.1 hs).2
      obtain ⟨h1, h2⟩ := List.pairwise_cons.1 h
      have hmm := @putG_mem (f :: r) hs K V u
      unfold putG at hmm ⊢
      split
      · rename_i hlt
        have hne : f.1 ≠ K := fun e => by rw [e, ltB_irr] at hlt; cases hlt
        have hvs : vsOf (f :: r) K = vsOf r K := by simp [vsOf, hne]
        refine List.pairwise_cons.2 ⟨fun x hx => ?_, ih hr h2 (fun g hg hgk => by rw [← hvs]; exact hu g (by simp [hg]) hgk)⟩
        rcases putG_mem hr K V u hx with ⟨hx1, _⟩ | rfl
        · exact h1 x hx1
        · rw [← hvs]; exact hu f (by simp) hne
      · split
        · rename_i h2'
          refine List.pairwise_cons.2 ⟨fun x hx => ?_, h2⟩
          have := hu x (by simp [hx]) (by rw [← h2']; exact hs.ne x hx)
          simp only [vsOf, h2', if_true] at this
          exact hsym _ _ this
        · rename_i hlt h2'
          have hall : ∀ x ∈ f :: r, x.1 ≠ K := by
            intro x hx e
            rcases List.mem_cons.1 hx with rfl | hx
            · exact h2' e
            · have := (List.pairwise_cons.1 hs).1 x hx
              rw [e] at this; exact hlt this
          have hv : ∀ l : List GF, (∀ x ∈ l, x.1 ≠ K) → vsOf l K = [] := by
            intro l hl
            induction l with
            | nil => rfl
            | cons y l ihl => unfold vsOf; rw [if_neg (hl y (by simp))]; exact ihl (fun x hx => hl x (by simp [hx]))
          refine List.pairwise_cons.2 ⟨fun x hx => ?_, h⟩
          have := hu x hx (hall x hx)
          rw [hv _ hall] at this
          exact hsym _ _ this
  exact key gs hs h hu
theorem valOf_mem {gs : List GF} {k : Bs} (h : gs.any (fun g => g.1 == k) = true) : ∃ g ∈ gs, g.1 = k ∧ valOf gs k = g.2.2 ∧ vsOf gs k = g.2.1 := by
  induction gs with
  | nil => cases h
  | cons f r ih =>
    by_cases hf : f.1 = k
    · exact ⟨f, by simp, hf, by simp [valOf, hf], by simp [vsOf, hf]⟩
    · have : r.any (fun g => g.1 == k) = true := by simpa [hf] using h
      obtain ⟨g, hg, h1, h2, h3⟩ := ih this
      exact ⟨g, by simp [hg], h1, by simp [valOf, hf, h2], by simp [vsOf, hf, h3]⟩
theorem valOf_not {gs : List GF} {k : Bs} (h : gs.any (fun g => g.1 == k) = false) : valOf gs k = nilV ∧ vsOf gs k = [] := by
  induction gs with
  | nil => exact ⟨rfl, rfl⟩
  | cons f r ih =>
    have hf : f.1 ≠ k ∧ r.any (fun g => g.1 == k) = false := by simpa using h
    have := ih hf.2
    exact ⟨by simp [valOf, hf.1, this.1], by simp [vsOf, hf.1, this.2]⟩

/-- how an element reads: as itself -/
def RV : Value → Option (DataW Value × List MemPlace) := fun v => some (.held v, [])

theorem key_law : Keyed Tryz.prog 9 := Go.Maps.string_keyed (by kernel_rfl)
theorem keyOf9 (k : Bs) (h : k.length ≤ 100000) : keyOf Tryz.prog 9 (.string (bstr k)) = some (.string k) := by
  have := Go.WideMaps.keyOf_string_mk (P := Tryz.prog) (k := 9) (by kernel_rfl) (s := bstr k) (by rw [bstr_size]; unfold maxLen; omega)
  rw [bstr_data] at this
  exact this

/-- Block M is a map that holds, key by key, the elements of gs (n: stores so far). -/
def MapD (w : World) (M n : Nat) (gs : List GF) : Prop :=
  ∃ D, w.ownsMap Tryz.prog 9 RV M n D ∧ ∀ k : Bs, D.atKey (.string k) (.held nilV) = .held (valOf gs k) ∧ Go.Maps.has D (.string k) = gs.any (fun g => g.1 == k)

theorem MapD.chg {S : List Nat} {w w' : World} {M n : Nat} {gs : List GF} (h : MapD w M n gs) (hc : Chg S w w') (hn : M ∉ S) : MapD w' M n gs := by
  obtain ⟨D, ⟨es, clock, hb, r⟩, hn2⟩ := h
  refine ⟨D, ⟨es, clock, ?_, r⟩, hn2⟩
  have hlt := (Array.getElem?_eq_some_iff.1 hb).1
  rw [hc.block M hlt hn]; exact hb
theorem MapD.lt {w : World} {M n : Nat} {gs : List GF} (h : MapD w M n gs) : M < w.heap.size := by
  obtain ⟨D, ho, _⟩ := h; exact ho.lt
theorem map90 : Tryz.prog.underlying 90 = some (.map 9 59) := by kernel_rfl
theorem zero59 (w : World) : (zeroValue 59).run Tryz.prog w = .ok (.slice none 0 0) w := by kernel_rfl

theorem MapD.made (w : World) : MapD (w.alloc (.map #[] 0)) w.heap.size 0 [] :=
  ⟨_, World.ownsMap_made w Tryz.prog 9 RV, fun k => ⟨rfl, rfl⟩⟩

theorem MapD.look {w : World} {M n : Nat} {gs : List GF} (h : MapD w M n gs) (k : Bs) (hk : k.length ≤ 100000) : (Instr.lookup 90 (.map (some M)) (.string (bstr k)) false).run Tryz.prog w = .ok (valOf gs k) w := by
  obtain ⟨D, ho, hat⟩ := h
  obtain ⟨v, ps, hr, hv⟩ := ho.lookup key_law map90 (zero59 w) (zd := .held nilV) (zp := []) rfl (keyOf9 k hk)
  rw [(hat k).1] at hv
  simp only [RV, Option.some.injEq, Prod.mk.injEq, DataW.held.injEq] at hv
  rw [hr, hv.1]

theorem MapD.put {w : World} {M n : Nat} {gs : List GF} (h : MapD w M n gs) (K V : Bs) (u : Value) (hk : K.length ≤ 100000) (hn : n ≤ 100000) :
    ∃ w', (Instr.mapUpdate 90 (.map (some M)) (.string (bstr K)) u).run Tryz.prog w = .ok () w' ∧ MapD w' M (n + 1) (putG gs K V u) ∧ Chg [M] w w' := by
  obtain ⟨D, ho, hat⟩ := h
  obtain ⟨w', hr, ho', hg⟩ := ho.update key_law map90 (by unfold maxLen; omega) (keyOf9 K hk) (d := .held u) (ps := []) (val := u) rfl
  refine ⟨w', hr, ⟨_, ho', fun k => ?_⟩, Chg.of_grown hg⟩
  rw [putG_val, putG_any]
  by_cases he : k = K
  · subst he
    have hkl : Go.WideAt.IsKeyLit (Lit.string k) := by first | trivial | (unfold Go.WideAt.IsKeyLit; trivial)
    rw [Go.Maps.atKey_put_same ho.isMap hkl, Go.Maps.has_put_same ho.isMap hkl]
    simp
  · have hne : (Lit.string k : Lit) ≠ .string K := fun e => he (by cases e; rfl)
    rw [Go.Maps.atKey_put_other hne, Go.Maps.has_put_other hne, (hat k).1, (hat k).2]
    simp [he]

/-- An element of the map: a place of the one block that the elements are cut from, or a row of its own. -/
def Val (SB ns base : Nat) (w : World) (v : Value) (vs : List Bs) : Prop :=
  (∃ i s, i < ns ∧ v = .slice (some ⟨SB, i, none⟩) 1 1 ∧ vs = [s] ∧ SB < w.heap.size ∧ w.cell? ⟨SB, i, none⟩ = some (sv s)) ∨
  (w.ownsRow base 9 1 v vs.length (vs.map sv) ∧ ∃ k, v.ownBlock = some k ∧ k ≠ SB)

theorem Val.chg {S : List Nat} {SB ns base : Nat} {w w' : World} {v : Value} {vs : List Bs} (h : Val SB ns base w v vs) (hc : Chg S w w') (hn : ∀ k, v.ownBlock = some k → k ∉ S) : Val SB ns base w' v vs := by
  rcases h with ⟨i, s, hi, rfl, rfl, hlt, hcell⟩ | ⟨ho, hk⟩
  · exact .inl ⟨i, s, hi, rfl, rfl, Nat.lt_of_lt_of_le hlt hc.size, by rw [hc.cell (p := ⟨SB, i, none⟩) hlt (hn SB rfl)]; exact hcell⟩
  · exact .inr ⟨own_chg ho hc hn, hk⟩
theorem Val.str {SB ns base : Nat} {w : World} {v : Value} {vs : List Bs} (h : Val SB ns base w v vs) {S : List Nat} (hS : ∀ k, v.ownBlock = some k → k ∉ S) : StrS S w v vs := by
  rcases h with ⟨i, s, hi, rfl, rfl, hlt, hcell⟩ | ⟨ho, hk⟩
  · exact ⟨_, 1, rfl, Nat.le_refl _, .inr ⟨SB, i, rfl, hS SB rfl, hlt, fun j hj => by
      have : j = 0 := by simp at hj; omega
      subst this; exact hcell⟩⟩
  · exact StrS.of_own ho hS
theorem Val.more {SB ns ns' base : Nat} {w : World} {v : Value} {vs : List Bs} (h : Val SB ns base w v vs) (hn : ns ≤ ns') : Val SB ns' base w v vs := by
  rcases h with ⟨i, s, hi, r⟩ | h
  · exact .inl ⟨i, s, by omega, r⟩
  · exact .inr h

structure MapS (base SB ns : Nat) (w : World) (M n : Nat) (gs : List GF) : Prop where
  map : MapD w M n gs
  srt : Srt gs
  vals : ∀ g ∈ gs, g.2.1 ≠ [] ∧ Val SB ns base w g.2.2 g.2.1
  apart : gs.Pairwise (fun a b => ∀ k, k ≠ SB → a.2.2.ownBlock = some k → b.2.2.ownBlock ≠ some k)
  far : ∀ g ∈ gs, g.2.2.ownBlock ≠ some M
  mb : base ≤ M ∧ M ≠ SB
  small : ∀ g ∈ gs, g.1.length ≤ 100000 ∧ g.2.1.length ≤ n
  len : gs.length ≤ n

theorem MapS.chg {S : List Nat} {base SB ns : Nat} {w w' : World} {M n : Nat} {gs : List GF} (h : MapS base SB ns w M n gs) (hc : Chg S w w') (hM : M ∉ S) (hn : ∀ g ∈ gs, ∀ k, g.2.2.ownBlock = some k → k ∉ S) : MapS base SB ns w' M n gs :=
  ⟨h.map.chg hc hM, h.srt, fun g hg => ⟨(h.vals g hg).1, (h.vals g hg).2.chg hc (hn g hg)⟩, h.apart, h.far, h.mb, h.small, h.len⟩

theorem MapS.blk {base SB ns : Nat} {w : World} {M n : Nat} {gs : List GF} (h : MapS base SB ns w M n gs) : ∀ g ∈ gs, ∀ k, g.2.2.ownBlock = some k → k = SB ∨ (base ≤ k ∧ k < w.heap.size) := by
  intro g hg k hk
  rcases (h.vals g hg).2 with ⟨i, s, hi, hv, _⟩ | ⟨ho, _⟩
  · left; rw [hv] at hk; cases hk; rfl
  · exact .inr (ho.lt k hk)

theorem MapS.put {S : List Nat} {base SB ns ns' : Nat} {w w1 w2 : World} {M n : Nat} {gs : List GF} {K V : Bs} {u : Value} (h : MapS base SB ns w M n gs) (hKl : K.length ≤ 100000) (_hc : Chg S w w1)
    (hS : ∀ g ∈ gs, g.1 ≠ K → Val SB ns' base w1 g.2.2 g.2.1) (hu : Val SB ns' base w1 u (vsOf gs K ++ [V]))
    (hua : ∀ g ∈ gs, g.1 ≠ K → ∀ k, k ≠ SB → g.2.2.ownBlock = some k → u.ownBlock ≠ some k) (hum : u.ownBlock ≠ some M) (hm2 : MapD w2 M (n + 1) (putG gs K V u)) (hc2 : Chg [M] w1 w2) : MapS base SB ns' w2 M (n + 1) (putG gs K V u) := by
  refine ⟨hm2, putG_srt h.srt K V u, fun g hg => ?_, putG_pair (fun a b hab k hk1 hk2 hk3 => hab k hk1 hk3 hk2) h.apart h.srt K V u (fun g hg hgk k hk1 hk2 => hua g hg hgk k hk1 hk2), fun g hg => ?_, h.mb, fun g hg => ?_, Nat.le_trans (putG_len gs K V u) (by have := h.len; omega)⟩
  · rcases putG_mem h.srt K V u hg with ⟨h1, h2⟩ | rfl
    · exact ⟨(h.vals g h1).1, (hS g h1 h2).chg hc2 (fun k hk hm => by simp at hm; subst hm; exact h.far g h1 hk)⟩
    · exact ⟨by simp, hu.chg hc2 (fun k hk hm => by simp at hm; subst hm; exact hum hk)⟩
  · rcases putG_mem h.srt K V u hg with ⟨h1, h2⟩ | rfl
    · exact h.far g h1
    · exact hum
  · rcases putG_mem h.srt K V u hg with ⟨h1, h2⟩ | rfl
    · have := h.small g h1; exact ⟨this.1, by omega⟩
    · refine ⟨hKl, ?_⟩
      cases hany : gs.any (fun g => g.1 == K) with
      | true =>
        obtain ⟨f, hf, _, _, h4⟩ := valOf_mem hany
        have := (h.small f hf).2
        simp [h4]; omega
      | false => simp [(valOf_not hany).2]

theorem MapS.nil {base SB : Nat} (w : World) (hb : base ≤ w.heap.size) (hSB : SB < w.heap.size) : MapS base SB 0 (w.alloc (.map #[] 0)) w.heap.size 0 [] :=
  ⟨MapD.made w, List.Pairwise.nil, by simp, List.Pairwise.nil, by simp, ⟨hb, by omega⟩, by simp, by simp⟩
end Go.Proofs.YtekndndhgkdggaaGreatDoor

namespace Go.Proofs.YtekndndhgkdggaaGreatDoor
open Go.Shelf Go.RowKit
def lays8_ren : Go.Shelf.Ren := ⟨fun | 8 => 104 | 9 => 111 | 11 => 112 | 12 => 113 | 14 => 114 | 16 => 118 | 17 => 119 | 18 => 120 | 20 => 121 | n => n, fun | 22 => 22 | 9 => 9 | 3 => 3 | 4 => 4 | 5 => 5 | 28 => 209 | 27 => 208 | 0 => 0 | 31 => 212 | 33 => 159 | 21 => 21 | 36 => 187 | 37 => 116 | 40 => 190 | 39 => 189 | n => n, fun | 0 => 10 | 1 => 11 | n => n⟩
theorem lays8 : Go.Proofs.SlLaysV.n8 Tryz.prog lays8_ren := {
  mixed := by kernel_rfl
  f8 := Tryz.func104.trans (congrArg some (by kernel_rfl))
  f9 := Tryz.func111.trans (congrArg some (by kernel_rfl))
  f11 := Tryz.func112.trans (congrArg some (by kernel_rfl))
  f12 := Tryz.func113.trans (congrArg some (by kernel_rfl))
  f14 := Tryz.func114.trans (congrArg some (by kernel_rfl))
  f16 := Tryz.func118.trans (congrArg some (by kernel_rfl))
  f17 := Tryz.func119.trans (congrArg some (by kernel_rfl))
  f18 := Tryz.func120.trans (congrArg some (by kernel_rfl))
  f20 := Tryz.func121.trans (congrArg some (by kernel_rfl))
  t0 := Tryz.underlying0
  a0 := Tryz.isAgg0
  z0 := Tryz.sizeOf0
  v0 := Tryz.zeroValue0
  t3 := Tryz.underlying3
  a3 := Tryz.isAgg3
  z3 := Tryz.sizeOf3
  v3 := Tryz.zeroValue3
  t4 := Tryz.underlying4
  a4 := Tryz.isAgg4
  z4 := Tryz.sizeOf4
  v4 := Tryz.zeroValue4
  t5 := Tryz.underlying5
  a5 := Tryz.isAgg5
  z5 := Tryz.sizeOf5
  v5 := Tryz.zeroValue5
  t9 := Tryz.underlying9
  a9 := Tryz.isAgg9
  z9 := Tryz.sizeOf9
  v9 := Tryz.zeroValue9
  t21 := Tryz.underlying21
  a21 := Tryz.isAgg21
  z21 := Tryz.sizeOf21
  v21 := Tryz.zeroValue21
  t22 := Tryz.underlying22
  a22 := Tryz.isAgg22
  z22 := Tryz.sizeOf22
  v22 := Tryz.zeroValue22
  t27 := Tryz.underlying208
  a27 := Tryz.isAgg208
  z27 := Tryz.sizeOf208
  t28 := Tryz.underlying209
  a28 := Tryz.isAgg209
  z28 := Tryz.sizeOf209
  v28 := Tryz.zeroValue209
  t31 := Tryz.underlying212
  a31 := Tryz.isAgg212
  z31 := Tryz.sizeOf212
  v31 := Tryz.zeroValue212
  t33 := Tryz.underlying159
  a33 := Tryz.isAgg159
  z33 := Tryz.sizeOf159
  v33 := Tryz.zeroValue159
  t36 := Tryz.underlying187
  a36 := Tryz.isAgg187
  z36 := Tryz.sizeOf187
  t37 := Tryz.underlying116
  a37 := Tryz.isAgg116
  z37 := Tryz.sizeOf116
  v37 := Tryz.zeroValue116
  t39 := Tryz.underlying189
  a39 := Tryz.isAgg189
  z39 := Tryz.sizeOf189
  v39 := Tryz.zeroValue189
  t40 := Tryz.underlying190
  a40 := Tryz.isAgg190
  z40 := Tryz.sizeOf190
  v40 := Tryz.zeroValue190 }

theorem dropBl_trim (l : Bs) : Lib.trimLeftS l [32, 9] = dropBl l := by
  unfold Lib.trimLeftS dropBl
  congr 1
  funext c
  unfold blankB
  by_cases h1 : c = 32
  · subst h1; rfl
  · by_cases h2 : c = 9
    · subst h2; rfl
    · simp [h1, h2]
theorem drop_dropBl (l : Bs) : l.drop (l.length - (dropBl l).length) = dropBl l := by
  obtain ⟨t, ht⟩ := List.dropWhile_suffix (l := l) blankB
  unfold dropBl
  generalize List.dropWhile blankB l = d at ht ⊢
  subst ht
  simp

set_option maxRecDepth 100000 in
set_option maxHeartbeats 1000000 in
theorem trimASCII_any {S : List Nat} {w : World} {v : Value} {l : Bs} {D : Nat} (h : BS S w v l) (hl : l.length ≤ 100000) (hset : ∀ x : UInt8, w.cell? ⟨D, x.toNat, none⟩ = some (.bool (blankB x))) :
    Calls Tryz.prog 113 #[v, .pointer (some ⟨D, 0, none⟩)] w fun e w' => (∃ u, e = .returned u ∧ BS S w u (dropBl l)) ∧ w = w' := by
  obtain ⟨a, c, rfl, hlc, _⟩ := id h
  have hcon := fun x => Lib.hid (Any.bytes_asciiSet_contains (P := Tryz.prog) (ρ := lays8_ren) { lays8 with } D x (blankB x) w (hset x))
  have H := Lib.hid h; clear h hset
  go_enter Tryz.func113, Tryz.ntmps113
  go_wp2
  go_loop [0] (fun v => ∃ m, BS S w v m ∧ m.length ≤ 100000 ∧ Hid (dropBl m = dropBl l)) (fun v => lenV v)
  case atStart => exact ⟨l, H.out, hl, rfl⟩
  case round =>
    obtain ⟨m, hm, hml, hmq⟩ := hrel
    obtain ⟨a1, c1, rfl, hc1, _⟩ := id hm
    cases m with
    | nil =>
      simp only [List.length_nil] at *
      go_wp2
      go_ret
      exact ⟨⟨_, rfl, by rw [← hmq.out]; exact BS.nil _ _⟩, rfl⟩
    | cons d r =>
      obtain ⟨_, _, b, o, rfl, hcell, hr⟩ := hm.cons
      have hr := Lib.hid hr
      have hm := Lib.hid hm
      simp only [List.length_cons] at *
      have hsl : (Instr.slice 22 (.slice (some ⟨b, o, none⟩) (r.length + 1) c1) (some (.int .i64 1)) none none).run Tryz.prog w = .ok (.slice (subA (some ⟨b, o, none⟩) c1 1) r.length (c1 - 1)) w := slice22_l (some ⟨b, o, none⟩) (r.length + 1) c1 .i64 1 (by omega) (by omega) w
      have hcd := hcon d
      clear hcon
      have hcd' : Hid (Calls Tryz.prog 118 #[.pointer (some ⟨D, 0, none⟩), .int .u8 d.toNat] w fun e w' => e = .returned (.bool (blankB d)) ∧ w' = w) := hcd
      clear hcd
      cases hb : blankB d with
      | true =>
        have hbl : dropBl (d :: r) = dropBl r := by rw [dropBl_cons, hb]; rfl
        have hq := hmq.out; rw [hbl] at hq; have hq := Lib.hid hq; clear hmq hbl
        rw [hb] at hcd'
        clear hb
        go_wp2_with fail
        refine hcd'.out.mono ?_
        rintro e w' ⟨rfl, rfl⟩
        go_wp2
        go_round
        case measure => simp [lenV]
        case rel => exact ⟨r, hr.out, by omega, hq⟩
      | false =>
        have hbl : dropBl (d :: r) = d :: r := by rw [dropBl_cons, hb]; rfl
        have hq := hmq.out; rw [hbl] at hq; have hq := Lib.hid hq; clear hmq hbl
        rw [hb] at hcd'
        clear hb
        go_wp2_with fail
        refine hcd'.out.mono ?_
        rintro e w' ⟨rfl, rfl⟩
        go_wp2
        go_ret
        exact ⟨⟨_, rfl, by rw [← hq.out]; exact hm.out⟩, rfl⟩

theorem set_blank (x : UInt8) : (Lib.setCells [32, 9])[x.toNat]? = some (.bool (blankB x)) := by
  rw [Lib.setCells_at]
  congr 2
  unfold blankB
  by_cases h1 : x = 32
  · subst h1; rfl
  · by_cases h2 : x = 9
    · subst h2; rfl
    · simp [h1, h2]

set_option maxRecDepth 100000 in
set_option maxHeartbeats 1000000 in
theorem trimLeft_any {S : List Nat} {w : World} {v : Value} {l : Bs} (h : BS S w v l) (hl : l.length ≤ 100000) :
    Calls Tryz.prog 104 #[v, .string { data := #[32, 9] }] w fun e w' => (∃ u, e = .returned u ∧ BS S w' u (dropBl l)) ∧ Chg [] w w' := by
  have hv27 : ∀ w, (zeroValue 208).run Tryz.prog w = .ok (.agg (Array.replicate 256 (.bool false))) w := fun w => by kernel_rfl
  have hi27 : (Tryz.prog.info? 208).map (·.size) = some 256 := by kernel_rfl
  have hM := Lib.hid (Any.bytes_makeASCIISet (P := Tryz.prog) (ρ := lays8_ren) { lays8 with } hv27 hi27 { data := #[32, 9] } w (by decide) (by
    intro j b hj
    rcases j with _ | _ | j
    · simp at hj; subst hj; decide
    · simp at hj; subst hj; decide
    · simp at hj))
  have hM : Hid (Calls Tryz.prog 112 #[.string { data := #[32, 9] }] w fun e w' => e = .returned (.tuple #[.agg (Lib.setCells [32, 9]), .bool true]) ∧ w' = w.alloc (.cells (Lib.setCells [32, 9]) 208)) := hM
  have hsc : (storeCells ⟨w.heap.size + 1, 0, none⟩ (Lib.setCells [32, 9]).toList 0).run Tryz.prog ((w.alloc (.cells (Lib.setCells [32, 9]) 208)).alloc (.cells (Array.replicate 256 (.bool false)) 208)) = .ok () ((w.alloc (.cells (Lib.setCells [32, 9]) 208)).alloc (.cells (Lib.setCells [32, 9]) 208)) := by
    have := run_storeCells_new (P := Tryz.prog) (w.alloc (.cells (Lib.setCells [32, 9]) 208)) 208 (Array.replicate 256 (.bool false)) (Lib.setCells [32, 9]) (by rw [Lib.setCells_size]; exact hi27) (by rw [Lib.setCells_size, Array.size_replicate]) (Lib.setCells_one _)
    simpa using this
  have ez : Tryz.zeroCells208 = Array.replicate 256 (.bool false) := by kernel_rfl
  rw [← ez] at hsc
  clear ez
  have hsz := Lib.setCells_size [32, 9]
  have hcellAt : ∀ x : UInt8, ((w.alloc (.cells (Lib.setCells [32, 9]) 208)).alloc (.cells (Lib.setCells [32, 9]) 208)).cell? ⟨w.heap.size + 1, x.toNat, none⟩ = some (.bool (blankB x)) := fun x => by
    rw [World.cell?_alloc_at _ _ _ _ (by simp), set_blank]
  have hch : Chg [] w ((w.alloc (.cells (Lib.setCells [32, 9]) 208)).alloc (.cells (Lib.setCells [32, 9]) 208)) := ((Chg.refl _ _).alloc _).alloc _
  have h1 := h.chg hch.none
  obtain ⟨a, c, rfl, hlc, _⟩ := id h
  have hT := Lib.hid (trimASCII_any h1 hl hcellAt)
  by_cases h0 : l = []
  · subst h0
    simp only [List.length_nil] at *
    clear hM hsc hsz hcellAt hch h1 hT h hlc
    go_enter Tryz.func104, Tryz.ntmps104
    go_wp2
    go_ret
    exact ⟨⟨_, rfl, BS.nil _ _⟩, Chg.refl _ _⟩
  have hn0 : ((l.length : Int) == 0) = false := beq_eq_false_iff_ne.2 (by have := List.length_pos_iff.2 h0; omega)
  have z27 : ∀ w, (Go.sizeOf 208).run Tryz.prog w = .ok 256 w := fun w => by kernel_rfl
  have H := Lib.hid hch; clear hcellAt h1 h hch hv27 hi27
  go_enter Tryz.func104, Tryz.ntmps104
  go_wp2_with (go_at_call 112; refine hM.out.mono ?_; rintro e w' ⟨rfl, hw⟩; rw [hw])
  go_wp2_with (go_at_call 113; refine hT.out.mono ?_; rintro e w' ⟨⟨u, rfl, hu⟩, rfl⟩)
  go_ret
  exact ⟨⟨_, rfl, hu⟩, H.out⟩
end Go.Proofs.YtekndndhgkdggaaGreatDoor
