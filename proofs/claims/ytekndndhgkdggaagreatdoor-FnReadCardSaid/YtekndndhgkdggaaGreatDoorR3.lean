/- The reference's header. -/
import Derived.Test.YtekndndhgkdggaaGreatDoorR2
namespace Go.Proofs.YtekndndhgkdggaaGreatDoor
open Go.RowKit

theorem RdS.add {S S' : List Nat} {w : World} {RB : Nat} {l bd nl : Bs} {parts : Nat} (h : RdS S w RB l bd nl parts) (hs : ∀ x, x ∈ S' → x ∈ S ∨ w.heap.size ≤ x) : RdS S' w RB l bd nl parts := by
  obtain ⟨hn, v, hb, hv⟩ := h
  refine ⟨fun hm => (hs RB hm).elim hn (fun h2 => absurd hb.lt (Nat.not_lt.2 h2)), v, hb, hv.add (RB :: S') ?_⟩
  intro x hx
  rw [List.mem_cons] at hx
  rcases hx with rfl | hx
  · exact .inl (by simp)
  · exact (hs x hx).imp (fun h => by simp [h]) id
theorem RdS.lt {S : List Nat} {w : World} {RB : Nat} {l bd nl : Bs} {parts : Nat} (h : RdS S w RB l bd nl parts) : RB < w.heap.size := by
  obtain ⟨_, v, hb, _⟩ := h; exact hb.lt

theorem OwnF.blk {base : Nat} {w : World} {v : Value} {gs : List GF} (h : OwnF base w v gs) (x : Nat) (hx : x ∈ blkF v gs) : base ≤ x ∧ x < w.heap.size := by
  rw [mem_blkF] at hx
  rcases hx with hx | ⟨g, hg, hx⟩
  · exact h.row.lt x hx
  · exact (h.vals g hg).1.lt x hx
theorem OwnF.keep {base : Nat} {w w' : World} {v : Value} {gs : List GF} {S : List Nat} (h : OwnF base w v gs) (hc : Chg S w w') (hS : ∀ x, x ∈ S → x ∉ blkF v gs) : OwnF base w' v gs :=
  h.chg hc (fun k hk hm => hS k hm (mem_blkF.2 (.inl hk))) (fun g hg k hk hm => hS k hm (mem_blkF.2 (.inr ⟨g, hg, hk⟩)))
/-- a change below base keeps -/
theorem OwnF.keepB {base RB : Nat} {w w' : World} {v : Value} {gs : List GF} (h : OwnF base w v gs) (hc : Chg [RB] w w') (hB : RB < base) : OwnF base w' v gs :=
  h.keep hc (fun x hx hm => by simp at hx; subst hx; have := (h.blk x hm).1; omega)

theorem OwnF.nil (w : World) (base : Nat) (hb : base ≤ w.heap.size) : OwnF base (w.alloc (.cells #[] 61)) (.slice (some ⟨w.heap.size, 0, none⟩) 0 0) [] :=
  ⟨World.ownsRow_made w #[] 0 hb (by unfold maxLen; omega) rfl, by simp, by simp⟩

/-- what the header's reading leaves -/
def HdrPost (S : List Nat) (w : World) (RB : Nat) (bd nl : Bs) (parts : Nat) (res : HdrB) (e : Ending) (w' : World) : Prop :=
  match res with
  | .ok fs rem' => ∃ v gs T, e = .returned (.tuple #[v, .int .i64 0]) ∧ OwnF w.heap.size w' v gs ∧ fsOf gs = fs ∧ RdS T w' RB rem' bd nl parts ∧ (∀ x, x ∈ S → x ∈ T) ∧ (∀ x, x ∈ blkF v gs → x ∈ T) ∧ Chg [RB] w w'
  | .early => ∃ v, e = .returned (.tuple #[v, .int .i64 1]) ∧ Chg [RB] w w'
  | .wrong => ∃ v, e = .returned (.tuple #[v, .int .i64 2]) ∧ Chg [RB] w w'

/-- what holds between two lines of a header -/
def HInv (S : List Nat) (w : World) (RB : Nat) (bd nl : Bs) (parts : Nat) (res : HdrB) (v : Value) (wr : World) (gs : List GF) (rem : Bs) (T : List Nat) : Prop :=
  OwnF w.heap.size wr v gs ∧ RdS T wr RB rem bd nl parts ∧ (∀ x, x ∈ S → x ∈ T) ∧ (∀ x, x ∈ blkF v gs → x ∈ T) ∧ gs.length + rem.length ≤ 10000 ∧ (∀ g ∈ gs, g.2.1.length + rem.length ≤ 10000) ∧ hdrLoopB (fsOf gs) rem = res ∧ Chg [RB] w wr ∧ RB < w.heap.size

theorem HInv.len {S : List Nat} {w : World} {RB : Nat} {bd nl : Bs} {parts : Nat} {res : HdrB} {v : Value} {wr : World} {gs : List GF} {rem : Bs} {T : List Nat} (h : HInv S w RB bd nl parts res v wr gs rem T) :
    lenV ((wr.cell? ⟨RB, 0, none⟩).getD undef) = rem.length := by
  obtain ⟨_, ⟨_, v9, hb9, a9, c9, rfl, _⟩, _⟩ := h
  rw [hb9.cell 0]; rfl

theorem buildSlice_nil39 (w : World) : (Instr.buildSlice 39 0 #[]).run Tryz.prog w = .ok (.slice (some ⟨w.heap.size, 0, none⟩) 0 0) (w.alloc (.cells #[] 61)) := by
  kernel_rfl

/-- what a line comes to, and the header with it -/
def aftL (fs : Flds) (t : LineB) : HdrB :=
  match t with
  | .done r => .ok fs r
  | .early => .early
  | .wrong => .wrong
  | .field k v r => hdrLoopB (putB fs k v) r
theorem hdr_step (fs : Flds) (rem : Bs) : hdrLoopB fs rem = aftL fs (lineB rem) := by
  rw [hdrLoopB]; unfold aftL
  split <;> rename_i h <;> rw [h]

/-- what a field's lines come to -/
def lineD (kv rem : Bs) : LineB :=
  match keyB (beforeB kv) with
  | none => .wrong
  | some k => if k = [] then .wrong else if (afterB kv).all valuedB then .field k (dropBl (afterB kv)) rem else .wrong
def lineC (c : Option (Bs × Bs)) : LineB :=
  match c with
  | none => .early
  | some (kv, rem2) => lineD kv rem2
theorem lineB_none {rem : Bs} (h : headLineB rem = none) : lineB rem = .early := by unfold lineB; rw [h]
theorem lineB_done {rem r : Bs} (h : headLineB rem = some ([], r)) : lineB rem = .done r := by unfold lineB; rw [h]; simp
theorem lineB_wrong {rem l r : Bs} (h : headLineB rem = some (l, r)) (hne : l ≠ []) (hc : l.contains 58 = false) : lineB rem = .wrong := by
  unfold lineB; rw [h]; simp only [if_neg hne, hc]; rfl
theorem lineB_rest {rem l r : Bs} (h : headLineB rem = some (l, r)) (hne : l ≠ []) (hc : l.contains 58 = true) : lineB rem = lineC (contB (trimB l) r) := by
  unfold lineB lineC lineD; rw [h]; simp only [if_neg hne, hc]; rfl

/-- what holds while a field's lines are gathered -/
def CInv (w : World) (RB : Nat) (bd nl : Bs) (parts : Nat) (v : Value) (gs : List GF) (T : List Nat) (CC : Option (Bs × Bs)) (kvv : Value) (wr : World) (kvl rem : Bs) (T' : List Nat) : Prop :=
  wr.ownsRow w.heap.size 5 1 kvv kvl.length (kvl.map bv) ∧ RdS T' wr RB rem bd nl parts ∧ OwnF w.heap.size wr v gs ∧ (∀ x, x ∈ T → x ∈ T') ∧ (∀ b, kvv.ownBlock = some b → b ∈ T' ∧ b ∉ blkF v gs) ∧
    kvl.length + rem.length ≤ 10000 ∧ contB kvl rem = CC ∧ Chg [RB] w wr

theorem CInv.len {w : World} {RB : Nat} {bd nl : Bs} {parts : Nat} {v : Value} {gs : List GF} {T : List Nat} {CC : Option (Bs × Bs)} {kvv : Value} {wr : World} {kvl rem : Bs} {T' : List Nat} (h : CInv w RB bd nl parts v gs T CC kvv wr kvl rem T') :
    lenV ((wr.cell? ⟨RB, 0, none⟩).getD undef) = rem.length := by
  obtain ⟨_, ⟨_, v9, hb9, a9, c9, rfl, _⟩, _⟩ := h
  rw [hb9.cell 0]; rfl

theorem contB_nil (kv : Bs) : contB kv [] = some (kv, []) := by rw [contB]
theorem contB_stop {kv r : Bs} {c : UInt8} (h : blankB c = false) : contB kv (c :: r) = some (kv, c :: r) := by rw [contB]; simp [h]
theorem contB_early {kv r : Bs} {c : UInt8} (h : blankB c = true) (hh : headLineB (dropBl (c :: r)) = none) : contB kv (c :: r) = none := by
  rw [contB]; simp only [h, if_true]; split
  · rfl
  · rename_i p hp; rw [hh] at hp; cases hp
theorem contB_more {kv r m r2 : Bs} {c : UInt8} (h : blankB c = true) (hh : headLineB (dropBl (c :: r)) = some (m, r2)) : contB kv (c :: r) = contB (kv ++ [32] ++ trimB m) r2 := by
  rw [contB]; simp only [h, if_true]; split
  · rename_i hp; rw [hh] at hp; cases hp
  · rename_i p hp; rw [hh] at hp; cases hp; rfl

theorem trimB_len (l : Bs) : (trimB l).length ≤ l.length := by
  unfold trimB
  have h1 : ∀ x : Bs, (dropEnd x).length ≤ x.length := by
    intro x
    induction x with
    | nil => simp [dropEnd]
    | cons c r ih => unfold dropEnd; split <;> simp <;> omega
  exact Nat.le_trans (h1 _) (dropBl_len l)

/-- append onto a row of the call's own, with the reading and the fields beside it -/
theorem CInv.app {w : World} {RB : Nat} {bd nl : Bs} {parts : Nat} {v : Value} {gs : List GF} {T : List Nat} {kvv kv' : Value} {W w2 : World} {kvl m rem : Bs} {T' : List Nat}
    (h1 : W.ownsRow w.heap.size 5 1 kvv kvl.length (kvl.map bv)) (h2 : RdS T' W RB rem bd nl parts) (h3 : OwnF w.heap.size W v gs) (h4 : ∀ x, x ∈ T → x ∈ T')
    (h5 : ∀ b, kvv.ownBlock = some b → b ∈ T' ∧ b ∉ blkF v gs) (h6 : Chg [RB] w W) (hg : W.grownBy w2 kvv.ownBlock) (hw : ∀ b, kv'.ownBlock = some b → kvv.ownBlock = some b ∨ b = W.heap.size)
    (h7 : w2.ownsRow w.heap.size 5 1 kv' (kvl.length + m.length) ((kvl ++ m).map bv)) :
    ∃ T'', w2.ownsRow w.heap.size 5 1 kv' (kvl ++ m).length ((kvl ++ m).map bv) ∧ RdS T'' w2 RB rem bd nl parts ∧ OwnF w.heap.size w2 v gs ∧ (∀ x, x ∈ T → x ∈ T'') ∧ (∀ b, kv'.ownBlock = some b → b ∈ T'' ∧ b ∉ blkF v gs) ∧ Chg [RB] w w2 := by
  have hc := Chg.of_grown hg
  have hin : ∀ x, x ∈ kvv.ownBlock.toList → x ∈ T' ∧ x ∉ blkF v gs := fun x hx => h5 x (by simpa using hx)
  refine ⟨W.heap.size :: T', by rw [List.length_append]; exact h7, ?_, h3.keep hc (fun x hx => (hin x hx).2), fun x hx => by simp [h4 x hx], ?_, ?_⟩
  · have := (h2.add (S' := W.heap.size :: T') (fun x hx => by rw [List.mem_cons] at hx; exact hx.elim (fun e => .inr (Nat.le_of_eq e.symm)) .inl))
    exact this.chg (hc.mono (fun x hx => by simp [(hin x hx).1]))
  · intro b hb
    rcases hw b hb with h | rfl
    · exact ⟨by simp [(h5 b h).1], (h5 b h).2⟩
    · refine ⟨by simp, fun hm => ?_⟩
      have := (h3.blk _ hm).2
      omega
  · exact h6.thn hc (fun x hx => .inr (by
      have := h1.lt x (by simpa using hx); exact this.1))

theorem dropBl_contains {l : Bs} (h : l.contains 58 = true) : (dropBl l).contains 58 = true := by
  induction l with
  | nil => cases h
  | cons c r ih =>
    rw [dropBl_cons]; split
    · rename_i hb
      apply ih
      rw [List.contains_cons] at h
      have : ((58 : UInt8) == c) = false := by
        rw [beq_eq_false_iff_ne]; rintro rfl; revert hb; decide
      rw [this] at h; simpa using h
    · exact h
theorem dropEnd_contains {l : Bs} (h : l.contains 58 = true) : (dropEnd l).contains 58 = true := by
  induction l with
  | nil => cases h
  | cons c r ih =>
    rw [List.contains_cons] at h
    unfold dropEnd
    split
    · rename_i hc
      have : ((58 : UInt8) == c) = false := by
        rw [beq_eq_false_iff_ne]; rintro rfl; have := hc.2; revert this; decide
      rw [this] at h
      have := ih (by simpa using h)
      rw [hc.1] at this; cases this
    · rw [List.contains_cons]
      cases hq : ((58 : UInt8) == c)
      · rw [hq] at h; rw [ih (by simpa using h)]; rfl
      · rfl
theorem trimB_contains {l : Bs} (h : l.contains 58 = true) : (trimB l).contains 58 = true := dropEnd_contains (dropBl_contains h)
theorem contB_contains (kv rem : Bs) : ∀ p, contB kv rem = some p → kv.contains 58 = true → p.1.contains 58 = true := by
  induction h : rem.length using Nat.strongRecOn generalizing kv rem with
  | _ n ih =>
    intro p hp hk
    subst h
    cases rem with
    | nil => rw [contB_nil] at hp; cases hp; exact hk
    | cons c r =>
      cases hb : blankB c with
      | false => rw [contB_stop hb] at hp; cases hp; exact hk
      | true =>
        cases hh : headLineB (dropBl (c :: r)) with
        | none => rw [contB_early hb hh] at hp; cases hp
        | some q =>
          obtain ⟨m, r2⟩ := q
          rw [contB_more hb hh] at hp
          have h1 := headLineB_lt hh
          have h2 := dropBl_len (c :: r)
          exact ih r2.length (by simp only at h1; omega) _ r2 rfl p hp (by rw [List.contains_eq_mem] at *; simp at *; exact .inl hk)

theorem before_spec {kv : Bs} (h : kv.contains 58 = true) : (beforeB kv).length < kv.length ∧ kv.getD (beforeB kv).length 0 = 58 ∧ NoB 58 kv (beforeB kv).length ∧ beforeB kv = kv.take (beforeB kv).length ∧ afterB kv = kv.drop ((beforeB kv).length + 1) := by
  induction kv with
  | nil => cases h
  | cons c r ih =>
    by_cases hc : c = 58
    · subst hc
      have : beforeB (58 :: r) = [] := by simp [beforeB]
      rw [this]
      exact ⟨by simp, by simp, NoB.zero _ _, by simp, by simp [afterB]⟩
    · have hb : beforeB (c :: r) = c :: beforeB r := by simp [beforeB, hc]
      have ha : afterB (c :: r) = afterB r := by simp [afterB, hc]
      rw [List.contains_cons, show ((58 : UInt8) == c) = false from by rw [beq_eq_false_iff_ne]; exact fun e => hc e.symm] at h
      obtain ⟨h1, h2, h3, h4, h5⟩ := ih (by simpa using h)
      rw [hb, ha]
      refine ⟨by simp; omega, by simpa using h2, ?_, by simp only [List.length_cons, List.take_succ_cons]; rw [← h4], by simpa using h5⟩
      intro j hj
      cases j with
      | zero => simpa using hc
      | succ j => have := h3 j (by simp at hj; omega); simpa using this

theorem putB_len (fs : Flds) (k v : Bs) : (putB fs k v).length ≤ fs.length + 1 := by
  induction fs with
  | nil => simp [putB]
  | cons f r ih => unfold putB; split <;> (try split) <;> simp <;> omega
theorem putB_vals (fs : Flds) (k v : Bs) (N : Nat) (h : ∀ f ∈ fs, f.2.length ≤ N) : ∀ f ∈ putB fs k v, f.2.length ≤ N + 1 := by
  induction fs with
  | nil => simp [putB]
  | cons g r ih =>
    intro f hf
    unfold putB at hf
    have hg := h g (by simp)
    have hr := ih (fun f hf => h f (by simp [hf]))
    split at hf
    · rw [List.mem_cons] at hf; rcases hf with rfl | hf
      · omega
      · exact hr f hf
    · split at hf
      · rw [List.mem_cons] at hf; rcases hf with rfl | hf
        · simp; omega
        · have := h f (by simp [hf]); omega
      · rw [List.mem_cons, List.mem_cons] at hf; rcases hf with rfl | rfl | hf
        · simp
        · omega
        · have := h f (by simp [hf]); omega

theorem HInv.put {S : List Nat} {w : World} {RB : Nat} {bd nl : Bs} {parts : Nat} {res : HdrB} {v : Value} {wr w5 w6 : World} {gs : List GF} {rem rem2 : Bs} {T T1 : List Nat} {K V : Bs} {v' : Value} {gs' : List GF}
    (hi : HInv S w RB bd nl parts res v wr gs rem T) (hlt : rem2.length < rem.length) (hT : ∀ x, x ∈ T → x ∈ T1) (hrd : RdS T1 w5 RB rem2 bd nl parts) (hc5 : Chg [RB] w w5)
    (ho : OwnF w.heap.size w6 v' gs') (hf : fsOf gs' = putB (fsOf gs) K V) (hc : Chg (blkF v gs) w5 w6) (hn : ∀ x, x ∈ blkF v' gs' → x ∈ blkF v gs ∨ w5.heap.size ≤ x) (hres : hdrLoopB (putB (fsOf gs) K V) rem2 = res) :
    HInv S w RB bd nl parts res v' w6 gs' rem2 (blkF v' gs' ++ T1) := by
  obtain ⟨h1, _, h3, h4, h5, h6, _, _, h9⟩ := hi
  have hblk : ∀ x, x ∈ blkF v gs → x ∈ T1 := fun x hx => hT x (h4 x hx)
  refine ⟨ho, ?_, fun x hx => List.mem_append_right _ (hT x (h3 x hx)), fun x hx => List.mem_append_left _ hx, ?_, ?_, by rw [hf]; exact hres, ?_, h9⟩
  · have := hrd.add (S' := blkF v' gs' ++ T1) (fun x hx => by
      rw [List.mem_append] at hx
      rcases hx with hx | hx
      · rcases hn x hx with h | h
        · exact .inl (hblk x h)
        · exact .inr h
      · exact .inl hx)
    exact this.chg (hc.mono (fun x hx => List.mem_append_right _ (hblk x hx)))
  · have e : gs'.length = (fsOf gs').length := by simp [fsOf]
    have e2 : gs.length = (fsOf gs).length := by simp [fsOf]
    have := putB_len (fsOf gs) K V
    rw [← hf] at this; omega
  · intro g hg
    have hv := putB_vals (fsOf gs) K V (10000 - rem.length) (by
      intro f hf
      obtain ⟨g0, hg0, rfl⟩ := List.mem_map.1 hf
      have := h6 g0 hg0
      show g0.2.1.length ≤ _
      omega)
    rw [← hf] at hv
    have := hv (g.1, g.2.1) (List.mem_map.2 ⟨g, hg, rfl⟩)
    simp only at this
    omega
  · exact hc5.thn hc (fun x hx => .inr (h1.blk x hx).1)

/-- whether the first byte is a blank -/
def hdBl (rem : Bs) : Bool := match rem with | [] => false | c :: _ => blankB c
theorem hdrB_true {rem : Bs} (h : hdBl rem = true) : hdrB rem = .wrong := by
  cases rem with
  | nil => cases h
  | cons c r => unfold hdrB; simp only [show blankB c = true from h, if_true]
theorem hdrB_false {rem : Bs} (h : hdBl rem = false) : hdrB rem = hdrLoopB [] rem := by
  cases rem with
  | nil => rfl
  | cons c r => unfold hdrB; simp only [show blankB c = false from h]; rfl

theorem chomp_len (x : Bs) : (chompB x).length ≤ x.length := by
  unfold chompB; split
  · split <;> simp <;> omega
  · omega
theorem headLine_sum {rem l r : Bs} (h : headLineB rem = some (l, r)) : l.length + r.length ≤ rem.length := by
  unfold headLineB at h
  split at h
  · cases h
  · cases h
    have h1 := takeLine_len rem
    have h2 := chomp_len (takeLine rem).1
    split <;> omega
theorem headLine_len {rem l r : Bs} (h : headLineB rem = some (l, r)) : l.length ≤ rem.length := by
  unfold headLineB at h
  split at h
  · cases h
  · cases h
    have h1 := takeLine_le rem
    split
    · unfold chompB; split
      · split <;> simp <;> omega
      · exact h1
    · exact h1

set_option maxRecDepth 100000 in
set_option maxHeartbeats 1000000 in
theorem header_any {S : List Nat} {w : World} {RB : Nat} {rem bd nl : Bs} {parts : Nat} (h : RdS S w RB rem bd nl parts) (hl : rem.length ≤ 10000) :
    Calls Tryz.prog 11 #[.pointer (some ⟨RB, 0, none⟩)] w (HdrPost S w RB bd nl parts (hdrB rem)) := by
  generalize hres : hdrB rem = res
  have HR := Lib.hid hres; clear hres
  have H := Lib.hid h
  obtain ⟨hn, v, hb, hs⟩ := h
  obtain ⟨a, c, rfl, hlc, _⟩ := id hs
  have g0 : (w.alloc (.cells #[] 61)).cell? ⟨RB, 0, none⟩ = some (.slice a rem.length c) := (hb.alloc _).cell 0
  have HS := Lib.hid (hs.chg ((Chg.refl _ w).alloc (.cells #[] 61)))
  have hRB := hb.lt
  clear hs hb
  go_enter Tryz.func11, Tryz.ntmps11
  go_upto_region 2 with (fail)
  go_cut [34] (fun s wz => s = .bool (hdBl rem) ∧ wz = w.alloc (.cells #[] 61))
  case first =>
    cases rem with
    | nil =>
      simp only [List.length_nil] at *
      go_wp2
      go_meet
      exact ⟨rfl, rfl⟩
    | cons d r =>
      obtain ⟨_, _, b, o, rfl, hcell, _⟩ := HS.out.cons
      simp only [List.length_cons] at *
      have HBD := Lib.hid (show hdBl (d :: r) = blankB d from rfl)
      go_wp2_with (go_at_call 26; refine (blank_any d _).mono ?_; rintro e w' ⟨rfl, rfl⟩)
      go_meet
      exact ⟨by rw [HBD.out], rfl⟩
  case rest =>
    obtain ⟨rfl, rfl⟩ := hcut
    cases hbl : hdBl rem with
    | true =>
      have hres := HR.out
      rw [hdrB_true hbl] at hres
      have HR2 := Lib.hid hres; clear hres HR hbl
      go_wp2
      go_ret2
      rw [← HR2.out]
      exact ⟨_, rfl, (Chg.refl _ _).alloc _⟩
    | false =>
      have hres := HR.out
      rw [hdrB_false hbl] at hres
      have HR2 := Lib.hid hres; clear hres HR hbl
      go_wp2
      go_loopw [4] (fun v wr => ∃ gs rem' T, HInv S w RB bd nl parts res v wr gs rem' T) (fun _ wr => lenV ((wr.cell? ⟨RB, 0, none⟩).getD undef))
      case atStart =>
        refine ⟨[], rem, w.heap.size :: S, OwnF.nil w _ (Nat.le_refl _), ?_, by intro x hx; simp [hx], by intro x hx; simp [blkF, Value.ownBlock] at hx; simp [hx], by simp; omega, by simp, HR2.out, (Chg.refl _ _).alloc _, hRB⟩
        exact (H.out.add (S' := w.heap.size :: S) (fun x hx => by rw [List.mem_cons] at hx; exact hx.elim (fun e => .inr (Nat.le_of_eq e.symm)) .inl)).chg ((Chg.refl _ _).alloc _)
      case round =>
        clear HR2 H hl HS hn
        obtain ⟨gs, rem', T, hinv⟩ := hrel
        have hlen := hinv.len
        have hrl : rem'.length ≤ 10000 := by have := hinv.2.2.2.2.1; omega
        have hbase := hinv.2.2.2.2.2.2.2.1.size
        have HI := Lib.hid hinv; clear hinv
        have HLEN := Lib.hid hlen; clear hlen
        have hl1 := headLine_any HI.out.2.1 (by omega)
        have hlt := fun p => @headLineB_lt rem' p
        have hres := (hdr_step (fsOf gs) rem').symm.trans HI.out.2.2.2.2.2.2.1
        generalize hq : headLineB rem' = q at hl1 hlt
        have HL1 := Lib.hid hl1; clear hl1
        cases q with
        | none =>
          rw [lineB_none hq] at hres
          have HRES := Lib.hid hres; clear hres hq hlt
          go_wp2_with fail
          refine HL1.out.mono ?_
          rintro e w1 ⟨⟨u, rfl, _⟩, _, hch1⟩
          go_wp2
          go_ret2
          rw [← HRES.out]
          exact ⟨_, rfl, HI.out.2.2.2.2.2.2.2.1.trans hch1⟩
        | some p =>
          obtain ⟨l, r1⟩ := p
          have hlt1 := hlt _ rfl
          simp only at hlt1
          have hll : l.length ≤ 10000 := by have := headLine_len hq; omega
          clear hlt
          by_cases hle : l = []
          · subst hle
            rw [lineB_done hq] at hres
            have HRES := Lib.hid hres; clear hres hq
            go_wp2_with fail
            refine HL1.out.mono ?_
            rintro e w1 ⟨⟨u, rfl, hu⟩, hrd1, hch1⟩
            simp only [Option.getD_some, Option.isSome_some] at *
            obtain ⟨au, cu, rfl, _⟩ := hu
            simp only [List.length_nil] at *
            have HF := Lib.hid (And.intro hrd1 hch1); clear hrd1 hch1
            go_wp2
            go_ret2
            rw [← HRES.out]
            exact ⟨_, gs, T, rfl, HI.out.1.keepB HF.out.2 HI.out.2.2.2.2.2.2.2.2, rfl, HF.out.1, HI.out.2.2.1, HI.out.2.2.2.1, HI.out.2.2.2.2.2.2.2.1.trans HF.out.2⟩
          · have hne := Lib.hid hle
            have hz : ((l.length : Int) == 0) = false := by rw [beq_eq_false_iff_ne]; have := List.length_pos_iff.2 hle; omega
            clear hle
            go_wp2_with fail
            refine HL1.out.mono ?_
            rintro e w1 ⟨⟨u, rfl, hu⟩, hrd1, hch1⟩
            simp only [Option.getD_some, Option.isSome_some] at *
            have HF := Lib.hid (And.intro hu (And.intro hrd1 hch1)); clear hrd1 hch1
            obtain ⟨au, cu, rfl, hcu, _⟩ := hu
            have HQ := Lib.hid hq; clear hq
            have HRES := Lib.hid hres; clear hres HL1
            go_upto_block 2 with (fail)
            go_cut [7] (fun cl wz => (∃ n : Int, cl = .int .i64 n ∧ (l.contains 58 = true → 0 ≤ n) ∧ (l.contains 58 = false → n < 0)) ∧ wz = w1)
            case first =>
              go_wp2
              go_loop [7, 48] (fun cl i => cl = .int .i64 (-1) ∧ ∃ k : Nat, k ≤ l.length ∧ i = .int .i64 k ∧ NoB 58 l k) (fun _ i => l.length - (intOf i).toNat)
              case atStart => exact ⟨rfl, 0, Nat.zero_le _, rfl, NoB.zero _ _⟩
              case round =>
                obtain ⟨rfl, k, hk, rfl, hno⟩ := hrel
                by_cases hlt : k < l.length
                · obtain ⟨b7, o7, rfl, _, hseg⟩ := HF.out.1.at_ (by omega)
                  have hcell := hseg.cell k hlt
                  generalize hd : l.getD k 0 = d7 at hcell
                  have HD := Lib.hid hd; clear hd hseg
                  by_cases he : d7 = 58
                  · have ht := bv_eq 58 58 rfl he
                    have HE := Lib.hid he; clear he
                    go_wp2
                    go_meet
                    exact ⟨⟨_, rfl, ⟨fun _ => by omega, (fun h => by rw [contains_at (l := l) (k := k) hlt (HD.out.trans HE.out)] at h; cases h)⟩⟩, rfl⟩
                  · have ht := bv_ne 58 58 rfl he
                    have HE := Lib.hid he; clear he
                    go_wp2
                    go_round
                    case rel => exact ⟨rfl, k + 1, by omega, by go_num, hno.succ (by rw [HD.out]; exact HE.out)⟩
                    case measure => simp [intOf]; omega
                · have hke : k = l.length := by omega
                  have HKE := Lib.hid hke; clear hke
                  go_wp2
                  go_meet
                  exact ⟨⟨_, rfl, ⟨(fun h => by rw [noB_contains (l := l) (by rw [← HKE.out]; exact hno)] at h; cases h), fun _ => by omega⟩⟩, rfl⟩
            case rest =>
              obtain ⟨⟨n7, rfl, h7a, h7b⟩, hwc⟩ := hcut
              subst hwc
              cases hcol : l.contains 58 with
              | false =>
                have h7 := h7b hcol
                have hres := HRES.out
                rw [lineB_wrong HQ.out hne.out hcol] at hres
                clear h7a h7b hcol
                have HRES2 := Lib.hid hres; clear hres HRES
                go_wp2
                go_ret2
                rw [← HRES2.out]
                exact ⟨_, rfl, HI.out.2.2.2.2.2.2.2.1.trans HF.out.2.2⟩
              | true =>
                have h7 := h7a hcol
                have hres := HRES.out
                rw [lineB_rest HQ.out hne.out hcol] at hres
                have HK58 := Lib.hid (trimB_contains hcol)
                clear h7a h7b hcol
                have HRES2 := Lib.hid hres; clear hres HRES
                go_wp2_with fail
                refine (trimmed_any (HF.out.1.chg ((Chg.refl _ _).alloc (.cells #[] 5))) (by omega)).mono ?_
                rintro e w' ⟨⟨ut, rfl, hut⟩, rfl⟩
                have hb1 : w.heap.size ≤ wc.heap.size := Nat.le_trans hbase HF.out.2.2.size
                have hown0 : (wc.alloc (.cells #[] 5)).ownsRow w.heap.size 5 1 (.slice (some ⟨wc.heap.size, 0, none⟩) 0 0) ([] : Bs).length (([] : Bs).map bv) := World.ownsRow_made wc #[] 0 hb1 (by unfold maxLen; omega) rfl
                have htl := trimB_len l
                have hc1 : Chg [RB] w wc := HI.out.2.2.2.2.2.2.2.1.trans HF.out.2.2
                have hOF := HI.out.1.keepB HF.out.2.2 HI.out.2.2.2.2.2.2.2.2
                have hrd0 := HF.out.2.1
                have hpre := Lib.hid (And.intro hown0 (And.intro hOF (And.intro hrd0 hc1)))
                clear hOF hrd0 hc1
                go_upto_block 4 with (at_builtin; refine wpl_app_bytes2 rfl (.tmp 59) (.tmp 61) rfl w.heap.size _ 0 [] rfl hown0 _ ut (trimB l) rfl hut (by omega) (by simp; omega) ?_; intro kvv w2 hown1 hgrow1 hwh1)
                have hci : ∃ T', CInv w RB bd nl parts u4 gs T (contB (trimB l) r1) kvv w2 (trimB l) r1 T' := by
                  have p1 := hpre.out
                  have hlt9 : ∀ x, x ∈ blkF u4 gs → x < wc.heap.size := fun x hx => (p1.2.1.blk x hx).2
                  obtain ⟨T2, q1, q2, q3, q4, q5, q6⟩ := CInv.app (T' := wc.heap.size :: T) (W := wc.alloc (.cells #[] 5)) p1.1
                    ((p1.2.2.1.add (S' := wc.heap.size :: T) (fun x hx => by rw [List.mem_cons] at hx; exact hx.elim (fun e => .inr (Nat.le_of_eq e.symm)) .inl)).chg ((Chg.refl _ _).alloc _))
                    (p1.2.1.keep ((Chg.refl [] _).alloc _) (by simp)) (fun x hx => List.mem_cons_of_mem _ hx) (fun b hb => by simp [Value.ownBlock] at hb; subst hb; exact ⟨by simp, fun hm => by have := hlt9 _ hm; omega⟩) (p1.2.2.2.alloc _) hgrow1 hwh1 hown1
                  have hsum := headLine_sum HQ.out
                  exact ⟨T2, q1, q2, q3, q4, q5, by omega, rfl, q6⟩
                have hcl := contB_le (trimB l) r1
                have hk58 : ∀ p, contB (trimB l) r1 = some p → p.1.contains 58 = true := fun p hp => contB_contains _ _ p hp HK58.out
                clear hown0 hown1 hgrow1 hwh1 hut hpre hb1
                generalize contB (trimB l) r1 = CC at *
                have HCL := Lib.hid hcl; clear hcl htl
                have HK9 := Lib.hid hk58; clear hk58 HK58
                go_cut [10] (fun kvv' wz => ∃ kvl rem2 T', CInv w RB bd nl parts u4 gs T CC kvv' wz kvl rem2 T' ∧ Hid (CC = some (kvl, rem2)))
                case first =>
                  obtain ⟨T1, hci⟩ := hci
                  have HCI := Lib.hid hci; clear hci
                  go_wp2
                  go_loopw [10] (fun kvv' wz => ∃ kvl rem2 T', CInv w RB bd nl parts u4 gs T CC kvv' wz kvl rem2 T') (fun _ wz => lenV ((wz.cell? ⟨RB, 0, none⟩).getD undef))
                  case atStart => exact ⟨_, _, _, HCI.out⟩
                  case round =>
                    clear HCI
                    obtain ⟨kvl, remC, T2, hci⟩ := hrel
                    have hclen := hci.len
                    have hkl : kvl.length + remC.length ≤ 10000 := hci.2.2.2.2.2.1
                    obtain ⟨_, v9, hb9, hs9⟩ := hci.2.1
                    obtain ⟨a9, c9, rfl, hlc9, _⟩ := id hs9
                    have c90 : wr.cell? ⟨RB, 0, none⟩ = some (.slice a9 remC.length c9) := hb9.cell 0
                    have HB9 := Lib.hid (And.intro hb9 hs9); clear hb9 hs9
                    have HCI := Lib.hid hci; clear hci
                    have HCLEN := Lib.hid hclen; clear hclen
                    cases remC with
                    | nil =>
                      simp only [List.length_nil] at *
                      go_wp2
                      go_meet
                      exact ⟨kvl, [], T2, HCI.out, by unfold Hid; rw [← HCI.out.2.2.2.2.2.2.1, contB_nil]⟩
                    | cons d r =>
                      obtain ⟨_, _, b9, o9, rfl, hcell, _⟩ := HB9.out.2.cons
                      simp only [List.length_cons] at *
                      cases hbl : blankB d with
                      | false =>
                        have HBL := Lib.hid hbl; clear hbl
                        go_wp2_with (go_at_call 26; refine (blank_any d _).mono ?_; rintro e w' ⟨rfl, rfl⟩; rw [HBL.out])
                        go_meet
                        exact ⟨kvl, d :: r, T2, HCI.out, by unfold Hid; rw [← HCI.out.2.2.2.2.2.2.1, contB_stop HBL.out]⟩
                      | true =>
                        have HBL := Lib.hid hbl; clear hbl
                        have hdd : (dropBl (d :: r)).length ≤ r.length := by rw [dropBl_cons, HBL.out]; exact dropBl_len r
                        go_upto_block 6 with (go_at_call 26; refine (blank_any d _).mono ?_; rintro e w' ⟨rfl, rfl⟩; rw [HBL.out])
                        go_cut [] (fun wz => RdS T2 wz RB (dropBl (d :: r)) bd nl parts ∧ Chg [RB] wr wz)
                        case first =>
                          go_wp2
                          go_loopw [] (fun wz => ∃ remD, RdS T2 wz RB remD bd nl parts ∧ Hid (dropBl remD = dropBl (d :: r)) ∧ Chg [RB] wr wz ∧ remD.length ≤ 10000) (fun wz => lenV ((wz.cell? ⟨RB, 0, none⟩).getD undef))
                          case atStart => exact ⟨d :: r, HCI.out.2.1, rfl, Chg.refl _ _, by simp; omega⟩
                          case round =>
                            clear hcell c90
                            obtain ⟨remD, hrdD, hdD, hchD, hlD⟩ := hrel
                            obtain ⟨hnD, v8, hb8, hs8⟩ := hrdD
                            obtain ⟨a8, c8, rfl, hlc8, _⟩ := id hs8
                            have c80 : wr.cell? ⟨RB, 0, none⟩ = some (.slice a8 remD.length c8) := hb8.cell 0
                            have f80 : wr.frozen? ⟨RB, 0, none⟩ = false := hb8.free 0
                            have HB8 := Lib.hid (And.intro hb8 hs8); clear hb8 hs8
                            have HCH := Lib.hid hchD; clear hchD
                            have hlen8 : lenV ((wr.cell? ⟨RB, 0, none⟩).getD undef) = remD.length := by rw [c80]; rfl
                            have HLEN8 := Lib.hid hlen8; clear hlen8
                            cases remD with
                            | nil =>
                              simp only [List.length_nil] at *
                              go_wp2
                              go_meet
                              have e := hdD.out
                              rw [← e]
                              exact ⟨⟨hnD, _, HB8.out.1, HB8.out.2⟩, HCH.out⟩
                            | cons d2 r2 =>
                              obtain ⟨_, _, b8, o8, rfl, hcell8, hr8⟩ := HB8.out.2.cons
                              have HR8 := Lib.hid hr8; clear hr8
                              simp only [List.length_cons] at *
                              have hsl : (Instr.slice 22 (.slice (some ⟨b8, o8, none⟩) (r2.length + 1) c8) (some (.int .i64 1)) none none).run Tryz.prog wr = .ok (.slice (subA (some ⟨b8, o8, none⟩) c8 1) r2.length (c8 - 1)) wr := slice22_l (some ⟨b8, o8, none⟩) (r2.length + 1) c8 .i64 1 (by omega) (by omega) wr
                              cases hbl2 : blankB d2 with
                              | false =>
                                have HBL2 := Lib.hid hbl2; clear hbl2
                                go_wp2_with (go_at_call 26; refine (blank_any d2 _).mono ?_; rintro e w' ⟨rfl, rfl⟩; rw [HBL2.out])
                                go_meet
                                have e := hdD.out
                                rw [dropBl_cons d2, HBL2.out] at e
                                simp only [Bool.false_eq_true, if_false] at e
                                rw [← e]
                                exact ⟨⟨hnD, _, HB8.out.1, HB8.out.2⟩, HCH.out⟩
                              | true =>
                                have HBL2 := Lib.hid hbl2; clear hbl2
                                go_wp2_with (go_at_call 26; refine (blank_any d2 _).mono ?_; rintro e w' ⟨rfl, rfl⟩; rw [HBL2.out])
                                go_roundw
                                case rel =>
                                  have hc2 : ∀ v', Chg [RB] wr (wr.setCell ⟨RB, 0, none⟩ v') := fun v' => (Chg.refl _ _).setCell (by simp) _
                                  refine ⟨r2, ⟨hnD, _, HB8.out.1.set 0 _, HR8.out.chg ((hc2 _).mono (by simp))⟩, ?_, HCH.out.trans (hc2 _), by omega⟩
                                  have e := hdD.out
                                  rw [dropBl_cons d2, HBL2.out] at e
                                  exact e
                                case measure =>
                                  rw [HLEN8.out, (HB8.out.1.set 0 _).cell 0]
                                  simp [lenV]
                        case rest =>
                          obtain ⟨hrdE, hchE⟩ := hcut
                          have hci := HCI.out
                          have k1 : wc.ownsRow w.heap.size 5 1 u10 kvl.length (kvl.map bv) := own_chg hci.1 hchE (fun g hg hm => by have := (hci.1.lt g hg).1; simp at hm; omega)
                          have k3 : OwnF w.heap.size wc u4 gs := hci.2.2.1.keepB hchE hRB
                          have k6 : Chg [RB] w wc := hci.2.2.2.2.2.2.2.trans hchE
                          have kb : w.heap.size ≤ wc.heap.size := k6.size
                          have K := Lib.hid (And.intro k1 (And.intro hrdE (And.intro k3 k6)))
                          have HCC9 := Lib.hid hci.2.2.2.2.2.2.1
                          have H4 := Lib.hid (And.intro hci.2.2.2.1 hci.2.2.2.2.1)
                          clear k3 k6 hrdE hchE hci
                          go_wp2_with (at_builtin; refine wpl_app_bytes2 rfl (.tmp 101) (.tmp 102) rfl w.heap.size u10 kvl.length kvl rfl (k1.alloc _) [] _ [32] rfl (BS.one wc 32) (by simp; omega) (by simp; omega) ?_; intro kv3 w3 hown3 hgrow3 hwh3; have HG3 := Lib.hid (And.intro hown3 (And.intro hgrow3 hwh3)); clear hown3 hgrow3 hwh3 k1)
                          obtain ⟨T3, q1, q2, q3, q4, q5, q6⟩ := CInv.app (T' := T2) (W := wc.alloc (.cells #[bv 32] 5)) (K.out.1.alloc _) (K.out.2.1.chg ((Chg.refl _ _).alloc _)) (K.out.2.2.1.keep ((Chg.refl [] _).alloc _) (by simp)) H4.out.1 H4.out.2 (K.out.2.2.2.alloc _) HG3.out.2.1 HG3.out.2.2 HG3.out.1
                          have hsz3 := q6.size
                          clear K HG3
                          have hhl := headLine_any q2 (by omega)
                          generalize hq9 : headLineB (dropBl (d :: r)) = q at hhl
                          have HQ9 := Lib.hid hq9; clear hq9
                          have HHL := Lib.hid hhl; clear hhl
                          have Q := Lib.hid (And.intro q1 (And.intro q2 (And.intro q3 (And.intro q4 (And.intro q5 q6))))); clear q1 q2 q3 q4 q5 q6
                          cases q with
                          | none =>
                            refine HHL.out.mono ?_
                            rintro e w4 ⟨⟨u9, rfl, _⟩, _, hch4⟩
                            go_wp2
                            go_ret2
                            have hres := HRES2.out
                            rw [← HCC9.out, contB_early HBL.out HQ9.out] at hres
                            rw [← hres]
                            exact ⟨_, rfl, Q.out.2.2.2.2.2.trans hch4⟩
                          | some p =>
                            obtain ⟨m9, r9⟩ := p
                            have hsum9 := headLine_sum HQ9.out
                            have hlt9 := headLineB_lt HQ9.out
                            have htm9 := trimB_len m9
                            refine HHL.out.mono ?_
                            rintro e w4 ⟨⟨u9, rfl, hu9⟩, hrd4, hch4⟩
                            simp only [Option.getD_some, Option.isSome_some] at *
                            have hq := Q.out
                            have k1 : w4.ownsRow w.heap.size 5 1 kv3 (kvl ++ [32]).length ((kvl ++ [32]).map bv) := own_chg hq.1 hch4 (fun g hg hm => by have := (hq.1.lt g hg).1; simp at hm; omega)
                            have k3 : OwnF w.heap.size w4 u4 gs := hq.2.2.1.keepB hch4 hRB
                            have k6 : Chg [RB] w w4 := hq.2.2.2.2.2.trans hch4
                            have kb4 : w.heap.size ≤ w4.heap.size := k6.size
                            have hkl1 : (kvl ++ [32]).length = kvl.length + 1 := by simp
                            have K := Lib.hid (And.intro k1 (And.intro hrd4 (And.intro k3 k6)))
                            clear hrd4 k3 k6 hq hch4
                            go_wp2_with fail
                            refine (trimmed_any hu9 (by omega)).mono ?_
                            rintro e w' ⟨⟨ut9, rfl, hut9⟩, rfl⟩
                            go_wp2_with (at_builtin; refine wpl_app_bytes2 rfl (.tmp 111) (.tmp 113) rfl w.heap.size kv3 (kvl ++ [32]).length (kvl ++ [32]) rfl k1 _ ut9 (trimB m9) rfl hut9 (by omega) (by omega) ?_; intro kv5 w5 hown5 hgrow5 hwh5; have HG5 := Lib.hid (And.intro hown5 (And.intro hgrow5 hwh5)); clear hown5 hgrow5 hwh5 k1)
                            obtain ⟨T5, p1, p2, p3, p4, p5, p6⟩ := CInv.app (T' := T3) (W := w4) K.out.1 K.out.2.1 K.out.2.2.1 Q.out.2.2.2.1 Q.out.2.2.2.2.1 K.out.2.2.2 HG5.out.2.1 HG5.out.2.2 HG5.out.1
                            have hl5 : lenV ((w5.cell? ⟨RB, 0, none⟩).getD undef) = r9.length := by
                              obtain ⟨_, v99, hb99, a99, c99, rfl, _⟩ := p2
                              rw [hb99.cell 0]; rfl
                            have hcn := (contB_more (kv := kvl) HBL.out HQ9.out).symm.trans HCC9.out
                            have P5 := Lib.hid (And.intro p1 (And.intro p2 (And.intro p3 (And.intro p4 (And.intro p5 p6)))))
                            have HCN := Lib.hid hcn
                            have HL5 := Lib.hid hl5
                            clear p1 p2 p3 p4 p5 p6 hcn hl5
                            go_roundw
                            case rel =>
                              have p := P5.out
                              exact ⟨kvl ++ [32] ++ trimB m9, r9, T5, p.1, p.2.1, p.2.2.1, p.2.2.2.1, p.2.2.2.2.1, by simp; omega, HCN.out, p.2.2.2.2.2⟩
                            case measure =>
                              rw [HL5.out, HCLEN.out]
                              omega
                case rest =>
                  clear hci
                  obtain ⟨kvl, rem2, T1, hci, hCC⟩ := hcut
                  have hres := HRES2.out
                  rw [hCC.out] at hres
                  have hr2 : rem2.length < rem'.length := by have := HCL.out _ hCC.out; simp only at this; omega
                  obtain ⟨hp1, hp2, hp3, hp4, hp5⟩ := before_spec (HK9.out _ hCC.out)
                  simp only at hp1 hp2 hp3 hp4 hp5
                  generalize hpb : beforeB kvl = pb at *
                  generalize hab : afterB kvl = ab at *
                  have hD : aftL (fsOf gs) (match keyB pb with | none => .wrong | some k => if k = [] then .wrong else if ab.all valuedB then .field k (dropBl ab) rem2 else .wrong) = res := by
                    rw [← hres]; unfold lineC lineD; simp only [hpb, hab]
                  have HD := Lib.hid hD; clear hD hres hpb hab
                  generalize pb.length = P at *
                  have HP := Lib.hid (And.intro hp2 (And.intro hp3 (And.intro hp4 hp5))); clear hp2 hp3 hp4 hp5
                  have hkl : kvl.length + rem2.length ≤ 10000 := hci.2.2.2.2.2.1
                  have hbs := BS.of_own (S := [RB]) hci.1 (fun x hx => by simp at hx; subst hx; exact hRB)
                  obtain ⟨ak, ck, rfl, hkc, _⟩ := id hbs
                  obtain ⟨bk, ok, rfl, _, hsk⟩ := hbs.at_ (by omega)
                  have HSK := Lib.hid hsk; clear hsk
                  have HBS := Lib.hid hbs; clear hbs
                  have HCI := Lib.hid hci; clear hci hCC HCL HK9 HRES2
                  have hcb : ∀ wy : World, (Instr.slice 22 (.slice (some ⟨bk, ok, none⟩) kvl.length ck) none (some (.int .i64 (P : Int))) none).run Tryz.prog wy = .ok (.slice (some ⟨bk, ok, none⟩) P ck) wy := fun wy => slice22_h (some ⟨bk, ok, none⟩) kvl.length ck .i64 (P : Int) (by omega) (by omega) wy
                  have hca : ∀ wy : World, (Instr.slice 22 (.slice (some ⟨bk, ok, none⟩) kvl.length ck) (some (.int .i64 ((P : Int) + 1))) none none).run Tryz.prog wy = .ok (.slice (subA (some ⟨bk, ok, none⟩) ck (P + 1)) (kvl.length - (P + 1)) (ck - (P + 1))) wy := fun wy => slice22_l (some ⟨bk, ok, none⟩) kvl.length ck .i64 ((P : Int) + 1) (by omega) (by omega) wy
                  go_upto_block 8 with (fail)
                  go_cut [13] (fun at9 wz => at9 = .int .i64 (P : Int) ∧ wz = wc)
                  case first =>
                    go_wp2
                    go_loop [13] (fun i => ∃ k : Nat, k ≤ P ∧ i = .int .i64 k) (fun i => P - (intOf i).toNat)
                    case atStart => exact ⟨0, Nat.zero_le _, rfl⟩
                    case round =>
                      obtain ⟨k, hk, rfl⟩ := hrel
                      have hcell := HSK.out.cell k (by omega)
                      by_cases hlt : k < P
                      · have hnd := HP.out.2.1 k hlt
                        generalize kvl.getD k 0 = d9 at *
                        have ht := bv_ne 58 58 rfl hnd
                        have HND := Lib.hid hnd; clear hnd
                        go_wp2
                        go_round
                        case rel => exact ⟨k + 1, by omega, by go_num⟩
                        case measure => simp [intOf]; omega
                      · have hke : k = P := by omega
                        subst hke
                        have hd9 := HP.out.1
                        generalize kvl.getD k 0 = d9 at *
                        have ht := bv_eq 58 58 rfl hd9
                        have HD9 := Lib.hid hd9; clear hd9
                        go_wp2
                        go_meet
                        exact ⟨rfl, rfl⟩
                  case rest =>
                    obtain ⟨rfl, hwc2⟩ := hcut
                    subst hwc2
                    have hkb : BS [RB] wc (.slice (some ⟨bk, ok, none⟩) P ck) pb := by rw [HP.out.2.2.1]; exact HBS.out.take P (by omega)
                    have hpl : pb.length ≤ 10000 := by rw [HP.out.2.2.1]; simp; omega
                    have HKB := Lib.hid (key_any hkb (by omega)); clear hkb
                    cases hkk : keyB pb with
                    | none =>
                      have hres := HD.out
                      rw [hkk] at hres
                      rw [hkk] at HKB
                      have HRES5 := Lib.hid hres; clear hres HD hkk
                      go_wp2_with fail
                      refine HKB.out.mono ?_
                      rintro e w5 ⟨rfl, hc5⟩
                      go_wp2
                      go_ret2
                      rw [← HRES5.out]
                      exact ⟨_, rfl, HCI.out.2.2.2.2.2.2.2.trans hc5.none⟩
                    | some K =>
                      have hres := HD.out
                      rw [hkk] at hres
                      rw [hkk] at HKB
                      simp only [Option.getD_some, Option.isSome_some] at HKB
                      have HKK := Lib.hid hkk; clear hkk
                      by_cases hK : K = []
                      · subst hK
                        have HRES5 := Lib.hid hres; clear hres HD
                        go_wp2_with fail
                        refine HKB.out.mono ?_
                        rintro e w5 ⟨rfl, hc5⟩
                        go_wp2
                        go_ret2
                        rw [← HRES5.out]
                        exact ⟨_, rfl, HCI.out.2.2.2.2.2.2.2.trans hc5.none⟩
                      · simp only [if_neg hK] at hres
                        have HRES5 := Lib.hid hres; clear hres HD
                        have hK1 : (K == []) = false := by rw [beq_eq_false_iff_ne]; exact hK
                        have hK2 : K.isEmpty = false := by cases K with | nil => exact absurd rfl hK | cons _ _ => rfl
                        clear hK
                        go_wp2_with fail
                        refine HKB.out.mono ?_
                        rintro e w5 ⟨rfl, hc5⟩
                        obtain ⟨sa9, cc9, hca9, hba⟩ : ∃ sa9 cc9, (∀ wy : World, (Instr.slice 22 (.slice (some ⟨bk, ok, none⟩) kvl.length ck) (some (.int .i64 ((P : Int) + 1))) none none).run Tryz.prog wy = .ok (.slice sa9 ab.length cc9) wy) ∧ BS [RB] w5 (.slice sa9 ab.length cc9) ab := by
                          have hd := (HBS.out.drop (P + 1) (by omega)).chg hc5.none
                          rw [← HP.out.2.2.2] at hd
                          have e := hd.len.1
                          rw [e] at hd
                          exact ⟨_, _, fun wy => by rw [hca wy, e], hd⟩
                        have habl : ab.length ≤ 10000 := by rw [HP.out.2.2.2]; simp; omega
                        have HBA := Lib.hid hba
                        have hbac := hba.len.2
                        clear hca hba
                        have hof : OwnF w.heap.size w5 u4 gs ∧ w.heap.size ≤ w5.heap.size ∧ gs.length ≤ 100000 ∧ ∀ g ∈ gs, g.2.1.length ≤ 100000 :=
                          ⟨HCI.out.2.2.1.keep hc5 (by simp), Nat.le_trans HCI.out.2.2.2.2.2.2.2.size hc5.size, by have := HI.out.2.2.2.2.1; omega, fun g hg => by have := HI.out.2.2.2.2.2.1 g hg; omega⟩
                        have HOF := Lib.hid hof; clear hof
                        have HC5 := Lib.hid hc5; clear hc5
                        go_wp2
                        go_loop [140] (fun i => ∃ k : Nat, k ≤ ab.length ∧ i = .int .i64 k ∧ AllB valuedB ab k) (fun i => ab.length - (intOf i).toNat)
                        case atStart => exact ⟨0, Nat.zero_le _, rfl, AllB.zero _ _⟩
                        case round =>
                          obtain ⟨k, hk, rfl, hall⟩ := hrel
                          by_cases hlt : k < ab.length
                          · obtain ⟨b8, o8, rfl, _, hseg⟩ := HBA.out.at_ (by omega)
                            have hcell := hseg.cell k hlt
                            generalize hd : ab.getD k 0 = d8 at hcell
                            have HD8 := Lib.hid hd; clear hd hseg
                            cases hvl : valuedB d8 with
                            | false =>
                              have HVL := Lib.hid hvl; clear hvl
                              go_wp2_with (go_at_call 30; refine (valued_any d8 _).mono ?_; rintro e w' ⟨rfl, rfl⟩; rw [HVL.out])
                              go_ret2
                              have hres := HRES5.out
                              rw [not_all (k := k) hlt (by rw [HD8.out]; exact HVL.out)] at hres
                              rw [← hres]
                              exact ⟨_, rfl, HCI.out.2.2.2.2.2.2.2.trans HC5.out.none⟩
                            | true =>
                              have HVL := Lib.hid hvl; clear hvl
                              go_wp2_with (go_at_call 30; refine (valued_any d8 _).mono ?_; rintro e w' ⟨rfl, rfl⟩; rw [HVL.out])
                              go_round
                              case rel => exact ⟨k + 1, by omega, by go_num, hall.succ (by rw [HD8.out]; exact HVL.out)⟩
                              case measure => simp [intOf]; omega
                          · have hke : k = ab.length := by omega
                            subst hke
                            have hres := HRES5.out
                            rw [AllB.all hall] at hres
                            simp only [if_true] at hres
                            have HD5 := Lib.hid hres; clear hres hall
                            go_wp2
                            go_loop [18] (fun v9 => ∃ m, BS [RB] w5 v9 m ∧ m.length ≤ 10000 ∧ Hid (dropBl m = dropBl ab)) (fun v9 => lenV v9)
                            case atStart => exact ⟨ab, HBA.out, habl, rfl⟩
                            case round =>
                              obtain ⟨m, hm, hml, hmq⟩ := hrel
                              obtain ⟨a1, c1, rfl, hc1, _⟩ := id hm
                              cases m with
                              | nil =>
                                have hm9 : BS [RB] w5 (.slice a1 ([] : Bs).length c1) (dropBl ab) := by rw [← hmq.out]; exact hm
                                simp only [List.length_nil] at *
                                have hconv9 := conv22_9 hm9
                                have hof5 := HOF.out
                                go_wp2_with fail
                                refine (put_any K (dropBl ab) hof5.1 hof5.2.1 hof5.2.2.1 hof5.2.2.2).mono ?_
                                rintro e w6 ⟨v6, gs6, rfl, ho6, hf6, _, hc6, hn6⟩
                                have hin6 := HInv.put HI.out hr2 HCI.out.2.2.2.1 (HCI.out.2.1.chg HC5.out.none) (HCI.out.2.2.2.2.2.2.2.trans HC5.out.none) ho6 hf6 hc6 hn6 HD5.out
                                have hl6 := hin6.len
                                have HIN6 := Lib.hid (And.intro hin6 hl6)
                                clear hin6 hl6 ho6 hf6 hc6 hn6 hof5
                                go_wp2
                                go_roundw
                                case rel => exact ⟨gs6, rem2, _, HIN6.out.1⟩
                                case measure => rw [HIN6.out.2, HLEN.out]; omega
                              | cons d r =>
                                obtain ⟨_, _, b, o, rfl, hcell, hr⟩ := hm.cons
                                have hsl : (Instr.slice 22 (.slice (some ⟨b, o, none⟩) (r.length + 1) c1) (some (.int .i64 1)) none none).run Tryz.prog w5 = .ok (.slice (subA (some ⟨b, o, none⟩) c1 1) r.length (c1 - 1)) w5 := slice22_l (some ⟨b, o, none⟩) (r.length + 1) c1 .i64 1 (by omega) (by omega) w5
                                have hr := Lib.hid hr
                                cases hbl : blankB d
                                · have hm9 : BS [RB] w5 (.slice (some ⟨b, o, none⟩) (d :: r).length c1) (dropBl ab) := by rw [← hmq.out, dropBl_cons, hbl]; exact hm
                                  have HBL := Lib.hid hbl; clear hbl
                                  simp only [List.length_cons] at *
                                  have hconv9 := conv22_9 hm9
                                  go_wp2_with (go_at_call 26; refine (blank_any d _).mono ?_; rintro e w' ⟨rfl, rfl⟩; rw [HBL.out])
                                  have hof5 := HOF.out
                                  refine (put_any K (dropBl ab) hof5.1 hof5.2.1 hof5.2.2.1 hof5.2.2.2).mono ?_
                                  rintro e w6 ⟨v6, gs6, rfl, ho6, hf6, _, hc6, hn6⟩
                                  have hin6 := HInv.put HI.out hr2 HCI.out.2.2.2.1 (HCI.out.2.1.chg HC5.out.none) (HCI.out.2.2.2.2.2.2.2.trans HC5.out.none) ho6 hf6 hc6 hn6 HD5.out
                                  have hl6 := hin6.len
                                  have HIN6 := Lib.hid (And.intro hin6 hl6)
                                  clear hin6 hl6 ho6 hf6 hc6 hn6 hof5
                                  go_wp2
                                  go_roundw
                                  case rel => exact ⟨gs6, rem2, _, HIN6.out.1⟩
                                  case measure => rw [HIN6.out.2, HLEN.out]; omega
                                · have HBL := Lib.hid hbl; clear hbl
                                  simp only [List.length_cons] at *
                                  go_wp2_with (go_at_call 26; refine (blank_any d _).mono ?_; rintro e w' ⟨rfl, rfl⟩; rw [HBL.out])
                                  go_round
                                  case rel =>
                                    refine ⟨r, hr.out, by omega, ?_⟩
                                    have := hmq.out
                                    rw [dropBl_cons, HBL.out] at this; exact this
                                  case measure => simp [lenV]
end Go.Proofs.YtekndndhgkdggaaGreatDoor
