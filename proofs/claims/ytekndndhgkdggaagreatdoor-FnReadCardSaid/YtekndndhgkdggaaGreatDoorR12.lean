/- append of bytes, at a run and at a step of a region that draws its order. All is read of a part: the state, and how it goes on. io.ReadAll. impl's whole: a part that is read to its end. -/
import Derived.Test.YtekndndhgkdggaaGreatDoorR2
import Derived.Deep.AppendLies
import Derived.Test.YtekndndhgkdggaaGreatDoorR9
import Derived.Test.YtekndndhgkdggaaGreatDoorR11
import Derived.Room.AppendZeros
import Derived.Lib.JoinLaws
namespace Go.Proofs.YtekndndhgkdggaaGreatDoor
open Go.RowKit

theorem run_app3 {w : World} (ty t : TypeId)
    (base : Nat) (e : TypeId) (z : Value) (size bytes : Nat) (ht : Tryz.prog.underlying t = some (.slice e))
    (hinfo : (Tryz.prog.info? e).map (fun i => (i.zero, i.size, i.bytes)) = some (some z, size, bytes)) (hzs : z.cells.size = size) (hsz : 0 < size) (hby : bytes ≤ 100)
    (v : Value) (n : Nat) (xs : List Value) (hown : w.ownsRow base e size v n xs)
    (sa : Option Addr) (m c : Nat) (news : List Value) (hl : news.length = m * size)
    (hnone : sa = none → m = 0 ∧ c = 0) (hnews : ∀ ad, sa = some ad → ∀ j u, news[j]? = some u → w.cell? (ad.add j) = some u) (h1 : ∀ u ∈ news, u.oneCell' = true)
    (hb : n + m ≤ 1000000) (hbase : base ≤ w.heap.size) :
    ∃ v' w', (Builtin.append_ #[t, t] ty #[v, .slice sa m c]).run Tryz.prog w = .ok v' w' ∧ w'.ownsRow base e size v' (n + m) (xs ++ news) ∧ w.grownBy w' v.ownBlock ∧ (∀ b, v'.ownBlock = some b → v.ownBlock = some b ∨ b = w.heap.size) := by
  obtain ⟨i, hi, hz0, hz1, hz2⟩ := info_parts hinfo
  have hby2 : (n + m) * bytes ≤ 140737488355328 := by have : (n + m) * bytes ≤ 1000000 * 100 := Nat.mul_le_mul hb hby; omega
  have h63 : n + m ≤ maxLen := by unfold maxLen; omega
  cases sa with
  | none =>
    obtain ⟨rfl, rfl⟩ := hnone rfl
    have hn0 : news = [] := List.eq_nil_of_length_eq_zero (by simpa using hl)
    subst hn0
    exact ⟨v, w, run_append_owned_none (P := Tryz.prog) w base t ty e i size ht hi v n xs hown, by simpa using hown, World.grownBy.refl _ _, fun b hb => .inl hb⟩
  | some ad =>
    obtain ⟨v', w', hr, h2, h3, _, h5⟩ := run_append_own_at (P := Tryz.prog) w base t ty e i z size bytes ht hi hz0 hz1 hz2 hzs hsz v n xs hown ad m c news hl (hnews ad rfl) h1 h63 hby2 hbase
    refine ⟨v', w', hr, h2, h3, fun b hb => ?_⟩
    rcases h5 with h5 | h5
    · exact .inl (by rw [← h5]; exact hb)
    · right; rw [h5] at hb; cases hb; rfl

theorem run_app_bytes {w : World} (ty : TypeId) (base : Nat) (v : Value) (n : Nat) (l : Bs) (hown : w.ownsRow base 5 1 v n (l.map bv))
    (S : List Nat) (sv : Value) (m : Bs) (hm : BS S w sv m) (hb : n + m.length ≤ 1000000) (hbase : base ≤ w.heap.size) :
    ∃ v' w', (Builtin.append_ #[22, 22] ty #[v, sv]).run Tryz.prog w = .ok v' w' ∧ w'.ownsRow base 5 1 v' (n + m.length) ((l ++ m).map bv) ∧ w.grownBy w' v.ownBlock ∧ (∀ b, v'.ownBlock = some b → v.ownBlock = some b ∨ b = w.heap.size) := by
  obtain ⟨a', c, rfl, hlc, hor⟩ := hm
  have := run_app3 (w := w) ty 22 base 5 (.int .u8 0) 1 1 (by kernel_rfl) info5 rfl (by decide) (by decide) v n (l.map bv) hown a' m.length c (m.map bv) (by simp) ?_ ?_ (bv_one m) hb hbase
  · simpa using this
  · rintro rfl; rcases hor with ⟨_, rfl, rfl⟩ | ⟨b, o, h, _⟩
    · simp
    · cases h
  · rintro ad rfl j u hj
    rcases hor with ⟨h, _⟩ | ⟨b, o, h, _, hseg⟩
    · cases h
    · cases h
      have hjl : j < m.length := by
        rcases Nat.lt_or_ge j m.length with h | h
        · exact h
        · rw [List.getElem?_eq_none (by simpa using h)] at hj; cases hj
      rw [Addr.add_at, hseg.cell j hjl]
      simp [List.getElem?_eq_getElem hjl] at hj
      simp [List.getD, List.getElem?_eq_getElem hjl, ← hj]

/-- append(s, x...) of bytes at a step of a region that draws -/
theorem step_app_bytes {w : World} {ops : Array Oper} {o : Oper} {a : Act} {K : Act → World → Prop} {Q : Exit → Act → World → Prop} {E : Prop} (hgd : o.guard = none) (s x : Operand)
    (ho : o.op = .call { callee := .builtin .append, args := #[s, x], argTypes := #[22, 22] })
    (base : Nat) (v : Value) (n : Nat) (l : Bs) (hs : a.eval s = v) (hown : w.ownsRow base 5 1 v n (l.map bv))
    (S : List Nat) (sv : Value) (m : Bs) (hx : a.eval x = sv) (hm : BS S w sv m)
    (hb : n + m.length ≤ 1000000) (hbase : base ≤ w.heap.size)
    (h : ∀ v' w', w'.ownsRow base 5 1 v' (n + m.length) ((l ++ m).map bv) → w.grownBy w' v.ownBlock → (∀ b, v'.ownBlock = some b → v.ownBlock = some b ∨ b = w.heap.size) → K (a.put o.dst v') w') :
    if Region.wanted o (yielded ops a.tmps) = true then Oper.wp Tryz.prog o a w K Q else E := by
  have hw : Region.wanted o (yielded ops a.tmps) = true := by simp [Region.wanted, hgd]
  rw [if_pos hw]
  obtain ⟨v', w', hr, h2, h3, h4⟩ := run_app_bytes (w := w) o.type base v n l hown S sv m hm hb hbase
  unfold Oper.wp execOp
  simp only [ho, resolve, invoke, builtin, Sem.run_bind, Sem.run_pure, Result.andThen_ok, List.map_toArray, List.map_cons, List.map_nil, hs, hx, hr]
  exact h v' w' h2 h3 h4

/-- an owned row, nothing of it taken -/
theorem own_zero {w : World} {base n c : Nat} {a : Option Addr} {xs : List Value} (h : w.ownsRow base 5 1 (.slice a n c) n xs) : w.ownsRow base 5 1 (.slice a 0 c) 0 [] := by
  refine ⟨rfl, ?_⟩
  rcases h.2 with ⟨hv, rfl⟩ | ⟨g, cap, cur, hv, hg, hh, hnc, hcm, hsz, _⟩
  · cases hv; exact .inl ⟨rfl, rfl⟩
  · cases hv; exact .inr ⟨g, c, cur, rfl, hg, hh, Nat.zero_le _, hcm, hsz, by simp⟩

theorem own_form {w : World} {base : Nat} {e : TypeId} {size : Nat} {v : Value} {n : Nat} {xs : List Value} (h : w.ownsRow base e size v n xs) : ∃ a c, v = .slice a n c ∧ n ≤ c := by
  rcases h.2 with ⟨rfl, rfl⟩ | ⟨g, cap, cur, rfl, hg, hh, hnc, _⟩
  · exact ⟨_, _, rfl, Nat.le_refl _⟩
  · exact ⟨_, _, rfl, hnc⟩
end Go.Proofs.YtekndndhgkdggaaGreatDoor

namespace Go.Proofs.YtekndndhgkdggaaGreatDoor
open Go.RowKit

theorem bodyB_le (bd nl rem : Bs) : (bodyB bd nl rem).1 ≤ rem.length ∧ (bodyB bd nl rem).2 ≤ 1 := by
  unfold bodyB
  simp only
  split
  · exact ⟨Nat.zero_le _, Nat.zero_le _⟩
  · have ha : (if begB rem ([45, 45] ++ bd) = true then ([45, 45] ++ bd).length else 0) ≤ rem.length := by
      split
      · rename_i h; exact beg_len h
      · exact Nat.zero_le _
    generalize (if begB rem ([45, 45] ++ bd) = true then ([45, 45] ++ bd).length else 0) = a at *
    have hs := srch_le rem (nl ++ [45, 45] ++ bd) a a (Nat.le_refl _) ha (by simp; omega)
    cases hsr : srchB rem (nl ++ [45, 45] ++ bd) a a with
    | mk b i =>
      rw [hsr] at hs
      simp only at hs
      cases b
      · simp only
        refine ⟨?_, Nat.le_refl _⟩
        have hd : (rem.drop i).length = rem.length - i := by simp
        split
        · omega
        · split
          · rename_i j hj
            have := lastB_lt hj
            split <;> omega
          · omega
      · exact ⟨hs, Nat.zero_le _⟩

/-- chunks: their values, their bytes -/
inductive Chk (S : List Nat) (w : World) : List Value → List Bs → Prop
  | nil : Chk S w [] []
  | cons {v : Value} {l : Bs} {vs : List Value} {ls : List Bs} : BS S w v l → Chk S w vs ls → Chk S w (v :: vs) (l :: ls)

theorem Chk.imp {S S' : List Nat} {w w' : World} {vs : List Value} {ls : List Bs} (h : Chk S w vs ls) (f : ∀ v l, BS S w v l → BS S' w' v l) : Chk S' w' vs ls := by
  induction h with
  | nil => exact .nil
  | cons h1 _ ih => exact .cons (f _ _ h1) ih
theorem Chk.snoc {S : List Nat} {w : World} {vs : List Value} {ls : List Bs} {v : Value} {l : Bs} (h : Chk S w vs ls) (hv : BS S w v l) : Chk S w (vs ++ [v]) (ls ++ [l]) := by
  induction h with
  | nil => exact .cons hv .nil
  | cons h1 _ ih => exact .cons h1 ih
theorem Chk.len {S : List Nat} {w : World} {vs : List Value} {ls : List Bs} (h : Chk S w vs ls) : vs.length = ls.length := by
  induction h with
  | nil => rfl
  | cons _ _ ih => simp [ih]
theorem Chk.at_ {S : List Nat} {w : World} {vs : List Value} {ls : List Bs} (h : Chk S w vs ls) : ∀ i, i < ls.length → ∃ v l, vs[i]? = some v ∧ ls[i]? = some l ∧ BS S w v l := by
  induction h with
  | nil => intro i hi; cases hi
  | cons h1 _ ih =>
    intro i hi
    cases i with
    | zero => exact ⟨_, _, rfl, rfl, h1⟩
    | succ i => simpa using ih i (by simpa using hi)

/-- kept where other blocks that may be written are written -/
theorem PtS.turn {B : Nat} {g : Nat → Addr} {h : Hs} {S T : List Nat} {w w' : World} {PP MR M : Nat} {bd nl : Bs} {cur : Value} {parts : Nat} {rem : Bs} {res : Nat × Nat} (hp : PtS B g h S w PP MR M bd nl cur parts rem res) (hc : Chg T w w') (hT : ∀ x ∈ T, x ∈ S ∧ B ≤ x ∧ x ∉ PP :: h.all) : PtS B g h S w' PP MR M bd nl cur parts rem res := by
  obtain ⟨n, tot, fin, ev, hb, r⟩ := hp.ex
  obtain ⟨h1, h2, h3, h4, h5, h6⟩ := hp.far
  exact ⟨⟨n, tot, fin, ev, hb.chg hc (fun hm => (hT _ hm).2.2 (by simp)), r⟩, hp.mr.chg (hc.mono fun x hx => (hT x hx).1) h5, hp.ins.imp fun r k => k.imp fun lb k => k.imp fun lr k => k.draw hc (fun x hx => ⟨(hT x hx).2.1, fun hm => (hT x hx).2.2 (by simp [hm])⟩), hp.far⟩

/-- all that a part's state speaks of is there -/
theorem PtS.old {B : Nat} {g : Nat → Addr} {h : Hs} {S : List Nat} {w : World} {PP MR M : Nat} {bd nl : Bs} {cur : Value} {parts : Nat} {rem : Bs} {res : Nat × Nat} (hp : PtS B g h S w PP MR M bd nl cur parts rem res) : ∀ x ∈ PP :: MR :: h.all, x < w.heap.size := by
  intro x hx
  obtain ⟨n, tot, fin, ev, hb, _⟩ := hp.ex
  obtain ⟨⟨_, _, _, _, _, hmb, _⟩, _⟩ := hp.mr
  obtain ⟨r, lb, lr, hin⟩ := hp.ins
  rcases List.mem_cons.1 hx with rfl | hx
  · exact hb.lt
  · rcases List.mem_cons.1 hx with rfl | hx
    · exact hmb.lt
    · unfold Hs.all at hx
      simp at hx
      rcases hx with rfl | rfl | rfl | rfl
      · obtain ⟨_, _, _, _, hb, _⟩ := hin.rd; exact hb.lt
      · obtain ⟨_, hb, _⟩ := hin.st; exact hb.lt
      · exact hin.br.lt
      · obtain ⟨_, _, hb, _⟩ := hin.u; exact hb.lt

structure RAS (B : Nat) (g : Nat → Addr) (h : Hs) (S : List Nat) (w : World) (PP MR M : Nat) (bd nl : Bs) (cur : Value) (parts : Nat) (wr : World) (D n c q6 c6 : Nat) (vs : List Value) (ls : List Bs) (lc : Bs) (rem : Bs) (res : Nat × Nat) : Prop where
  pt : PtS B g h (D :: q6 :: S) wr PP MR M bd nl cur parts rem res
  old : ∀ x ∈ PP :: MR :: h.all, x < w.heap.size
  le : B ≤ w.heap.size
  chg : Chg (PP :: h.all) w wr
  blk : ∃ cs, Blk wr D cs 5 ∧ cs.size = c
  seg : Seg wr D 0 lc
  len : lc.length = n ∧ n ≤ c
  new : w.heap.size ≤ D ∧ w.heap.size ≤ q6 ∧ q6 ≠ D
  row : wr.ownsRow w.heap.size 22 1 (.slice (some ⟨q6, 0, none⟩) ls.length c6) ls.length vs
  chk : Chk (D :: q6 :: PP :: h.all) wr vs ls

theorem own_to {w w' : World} {base : Nat} {e : TypeId} {size : Nat} {v : Value} {n : Nat} {xs : List Value} {S : List Nat} (h : w.ownsRow base e size v n xs) (hc : Chg S w w') (hS : ∀ k, v.ownBlock = some k → k ∉ S) : w'.ownsRow base e size v n xs := own_chg h hc hS

theorem RAS.quiet {B : Nat} {g : Nat → Addr} {h : Hs} {S : List Nat} {w : World} {PP MR M : Nat} {bd nl : Bs} {cur : Value} {parts : Nat} {wr w' : World} {D n c q6 c6 : Nat} {vs : List Value} {ls : List Bs} {lc rem : Bs} {res : Nat × Nat}
    (hs : RAS B g h S w PP MR M bd nl cur parts wr D n c q6 c6 vs ls lc rem res) (hc : Chg [] wr w') : RAS B g h S w PP MR M bd nl cur parts w' D n c q6 c6 vs ls lc rem res := by
  obtain ⟨cs, hb, hsz⟩ := hs.blk
  exact ⟨hs.pt.quiet hc, hs.old, hs.le, hs.chg.trans hc.none, ⟨cs, hb.chg hc (by simp), hsz⟩, hs.seg.chg hc (by simp), hs.len, hs.new, own_to hs.row hc (by simp), hs.chk.imp fun v l k => k.chg hc.none⟩

theorem RAS.read {B : Nat} {g : Nat → Addr} {h : Hs} {S : List Nat} {w : World} {PP MR M : Nat} {bd nl : Bs} {cur : Value} {parts : Nat} {wr w' : World} {D n c q6 c6 : Nat} {vs : List Value} {ls : List Bs} {lc rem : Bs} {res : Nat × Nat} {cs : Array Value} {k : Nat}
    (hs : RAS B g h S w PP MR M bd nl cur parts wr D n c q6 c6 vs ls lc rem res) (hcs : Blk wr D cs 5) (hc : Chg (D :: PP :: h.all) wr w') (hkr : k ≤ rem.length) (hkL : k ≤ c - n)
    (hf : ∃ cs', Blk w' D cs' 5 ∧ cs'.size = cs.size ∧ (∀ i, i < k → cs'[n + i]? = some (bv (rem.getD i 0))) ∧ (∀ i, i < n ∨ n + k ≤ i → cs'[i]? = cs[i]?))
    (hp : PtS B g h (D :: q6 :: S) w' PP MR M bd nl cur parts (rem.drop k) (res.1 - k, res.2)) :
    RAS B g h S w PP MR M bd nl cur parts w' D (n + k) c q6 c6 vs ls (lc ++ rem.take k) (rem.drop k) (res.1 - k, res.2) := by
  obtain ⟨cs0, hb0, hsz0⟩ := hs.blk
  obtain ⟨cs', hb', hsz', h1, h2⟩ := hf
  have hcc : cs0 = cs := by have := hb0.symm.trans hcs; simpa using this
  subst hcc
  have hdq := hs.new
  have hqn : q6 ∉ D :: PP :: h.all := by
    intro hm
    rcases List.mem_cons.1 hm with e | hm
    · exact hdq.2.2 e
    · have := hs.old q6 (by rcases List.mem_cons.1 hm with e | hm <;> simp [*]); omega
  refine ⟨hp, hs.old, hs.le, hs.chg.thn hc ?_, ⟨cs', hb', hsz'.trans hsz0⟩, ?_, ⟨by simp [hs.len.1]; omega, by have := hs.len; omega⟩, hdq, own_to hs.row hc (fun k hk => by cases hk; exact hqn), hs.chk.imp fun v l kk => kk.chg (hc.mono (by intro x hx; simp at hx ⊢; rcases hx with h | h | h <;> simp [h]))⟩
  · intro x hx
    rcases List.mem_cons.1 hx with rfl | hx
    · exact .inr hdq.1
    · exact .inl hx
  · refine ⟨hb'.lt, ?_⟩
    intro i hi
    rw [hb'.cell, Nat.zero_add]
    by_cases hin : i < n
    · rw [h2 i (.inl hin)]
      have := hs.seg.2 i (by rw [hs.len.1]; exact hin)
      rw [hb0.cell, Nat.zero_add] at this
      rw [this]
      simp [List.getD, List.getElem?_append_left (show i < lc.length by rw [hs.len.1]; exact hin)]
    · have hik : i - n < k := by simp [hs.len.1] at hi; omega
      have := h1 (i - n) hik
      rw [show n + (i - n) = i from by omega] at this
      rw [this]
      rw [List.getD, List.getD, List.getElem?_append_right (by rw [hs.len.1]; omega), hs.len.1, List.getElem?_take_of_lt hik]

/-- the block is full: it is put behind the chunks; a new one is begun -/
theorem RAS.push {B : Nat} {g : Nat → Addr} {h : Hs} {S : List Nat} {w : World} {PP MR M : Nat} {bd nl : Bs} {cur : Value} {parts : Nat} {wr w2 : World} {D n c q6 c6 q7 c7 c' : Nat} {vs : List Value} {ls : List Bs} {lc rem : Bs} {res : Nat × Nat} {Z : Array Value}
    (hs : RAS B g h S w PP MR M bd nl cur parts wr D n c q6 c6 vs ls lc rem res)
    (hg : (wr.alloc (.cells #[.slice (some ⟨D, 0, none⟩) n c] 22)).grownBy w2 (some q6)) (hr : w2.ownsRow w.heap.size 22 1 (.slice (some ⟨q7, 0, none⟩) (ls.length + 1) c7) (ls.length + 1) (vs ++ [.slice (some ⟨D, 0, none⟩) n c]))
    (hloc : q7 = q6 ∨ q7 = (wr.alloc (.cells #[.slice (some ⟨D, 0, none⟩) n c] 22)).heap.size) (hZ : Z.size = c') :
    RAS B g h S w PP MR M bd nl cur parts (w2.drew.alloc (.cells Z 5)) w2.heap.size 0 c' q7 c7 (vs ++ [.slice (some ⟨D, 0, none⟩) n c]) (ls ++ [lc]) [] rem res := by
  obtain ⟨cs, hb, hsz⟩ := hs.blk
  have hnew := hs.new
  have hDlt := hb.lt
  have hq6lt := (hs.row.lt q6 rfl).2
  have hws := hs.chg.size
  obtain ⟨wa, hwa⟩ : ∃ wa, wa = wr.alloc (.cells #[.slice (some ⟨D, 0, none⟩) n c] 22) := ⟨_, rfl⟩
  rw [← hwa] at hg hloc
  have hcA : Chg [] wr wa := by rw [hwa]; exact (Chg.refl [] wr).alloc _
  have hsA : wa.heap.size = wr.heap.size + 1 := by rw [hwa]; simp
  have hcG : Chg [q6] wa w2 := Chg.of_grown hg
  have hq7lt := (hr.lt q7 rfl).2
  have hs2 := hcG.size
  have hcZ : Chg [] w2 (w2.drew.alloc (.cells Z 5)) := ((Chg.refl [] w2).drew).alloc _
  have hcl : Chg [q6] wr (w2.drew.alloc (.cells Z 5)) := (hcA.none.trans hcG).trans hcZ.none
  have hPq : ∀ x ∈ PP :: h.all, x < w.heap.size := fun x hx => hs.old x (by rcases List.mem_cons.1 hx with e | hm <;> simp [*])
  have hle := hs.le
  have hqn : q6 ∉ PP :: h.all := fun hm => by have := hPq q6 hm; omega
  have hpt := hs.pt.turn hcl (fun x hx => by simp at hx; subst hx; exact ⟨by simp, by omega, hqn⟩)
  have hq7 : wr.heap.size ≤ q7 ∨ q7 = q6 := by omega
  refine ⟨?_, hs.old, hs.le, ?_, ⟨Z, Blk.at_ _ rfl _ _, hZ⟩, ⟨by simp, by simp⟩, ⟨rfl, Nat.zero_le _⟩, ⟨by omega, by omega, by omega⟩, ?_, ?_⟩
  · have hSS := hs.pt.far.2.2.2.2.2
    have hpa := hs.pt.add (S' := w2.heap.size :: q7 :: D :: q6 :: S) (fun x hx => by
      simp only [List.mem_cons] at hx ⊢
      rcases hx with rfl | rfl | h | h | h
      · right; omega
      · rcases hq7 with h | h
        · exact .inr h
        · exact .inl (.inr (.inl h))
      · exact .inl (.inl h)
      · exact .inl (.inr (.inl h))
      · exact .inl (.inr (.inr h))) (fun x hx => by have := hSS x hx; simp only [List.mem_cons] at this ⊢; exact .inr (.inr this))
    have hpb := hpa.turn hcl (fun x hx => by simp at hx; subst hx; exact ⟨by simp, by omega, hqn⟩)
    exact hpb.add (fun x hx => by
      simp only [List.mem_cons] at hx ⊢
      rcases hx with h | h | h
      · exact .inl (.inl h)
      · exact .inl (.inr (.inl h))
      · exact .inl (.inr (.inr (.inr (.inr h))))) (fun x hx => by
        have := hSS x hx
        have hlt := hPq x hx
        simp only [List.mem_cons] at this ⊢
        rcases this with h | h | h
        · omega
        · omega
        · exact .inr (.inr h))
  · exact hs.chg.thn hcl (fun x hx => by simp at hx; subst hx; exact .inr hnew.2.1)
  · have := own_to hr hcZ (by simp)
    simpa using this
  · have hk := hs.chk.imp (S' := w2.heap.size :: q7 :: PP :: h.all) (w' := w2.drew.alloc (.cells Z 5)) fun v l k => by
      have k1 := k.add (w2.heap.size :: q7 :: D :: q6 :: PP :: h.all) (fun x hx => by
        simp only [List.mem_cons] at hx ⊢
        rcases hx with rfl | rfl | h | h | h | h
        · right; omega
        · rcases hq7 with h | h
          · exact .inr h
          · exact .inl (.inr (.inl h))
        · exact .inl (.inl h)
        · exact .inl (.inr (.inl h))
        · exact .inl (.inr (.inr (.inl h)))
        · exact .inl (.inr (.inr (.inr h))))
      have k2 := k1.chg (hcl.mono (fun x hx => by simp at hx; subst hx; simp))
      exact k2.mono (fun x hx => by
        simp only [List.mem_cons] at hx ⊢
        rcases hx with h | h | h | h
        · exact .inl h
        · exact .inr (.inl h)
        · exact .inr (.inr (.inr (.inr (.inl h))))
        · exact .inr (.inr (.inr (.inr (.inr h)))))
    refine hk.snoc (BS.of_seg (hs.seg.chg hcl (by simp; omega)) hs.len.1 hs.len.2 ?_)
    intro hm
    simp only [List.mem_cons] at hm
    rcases hm with h | h | h | h
    · omega
    · omega
    · have := hPq D (by simp [h]); omega
    · have := hPq D (by simp [h]); omega
end Go.Proofs.YtekndndhgkdggaaGreatDoor

namespace Go.Proofs.YtekndndhgkdggaaGreatDoor
open Go.RowKit Go.Lib

def RaPost (B : Nat) (g : Nat → Addr) (h : Hs) (S : List Nat) (w : World) (PP MR M : Nat) (bd nl : Bs) (cur : Value) (parts : Nat) (rem : Bs) (res : Nat × Nat) (e : Ending) (w' : World) : Prop :=
  ∃ v er, e = .returned (.tuple #[v, er]) ∧ (er = if res.2 = 0 then .nilIface else erv (g res.2)) ∧ Chg (PP :: h.all) w w' ∧ (∀ S', (∀ x ∈ S', x < w.heap.size) → BS S' w' v (rem.take res.1)) ∧ PtS B g h S w' PP MR M bd nl cur parts (rem.drop res.1) (0, res.2)

theorem info22s : (Tryz.prog.info? 22).map (fun i => (i.zero, i.size, i.bytes)) = some (some (.slice none 0 0), 1, 24) := by kernel_rfl

theorem zeros_run (W : World) (ty : TypeId) (n : Nat) (h0 : 0 < n) (hn : n ≤ 100000) :
    ∃ c Z, (Builtin.append_ #[22, 3] ty #[.slice none 0 0, .int .i64 (n : Int)]).run Tryz.prog W = .ok (.slice (some ⟨W.heap.size, 0, none⟩) n c) (W.drew.alloc (.cells Z 5)) ∧ Z.size = c ∧ n ≤ c ∧ c ≤ 9223372036854775807 := by
  obtain ⟨i, hi, hz0, hz1, hz2⟩ := info_parts info5
  have hr := run_append_nil_zeros (P := Tryz.prog) W 22 3 ty 5 i (.int .u8 0) .i64 .i64 (by kernel_rfl) (by kernel_rfl) hi hz0 n h0 (by omega) (by omega) (by rw [hz2]; omega)
  have hge := grownCap_ge W n 0 5
  have hm := grownCap_le_maxLen W n 0 5 (by unfold maxLen; omega)
  unfold maxLen at hm
  refine ⟨_, _, hr, ?_, hge, by omega⟩
  simp [Builtin.zeroCells, Value.cells]
  omega

structure RaI (rem : Bs) (res : Nat × Nat) (m fs : Nat) (ls : List Bs) (lc rem' : Bs) (res' : Nat × Nat) : Prop where
  cat : ls.flatten ++ lc ++ rem'.take res'.1 = rem.take res.1
  left : rem'.drop res'.1 = rem.drop res.1
  snd : res'.2 = res.2
  m : ls.length = m
  fs : ls.flatten.length = fs
  le : res'.1 ≤ rem'.length

theorem RaI.read {rem : Bs} {res : Nat × Nat} {m fs : Nat} {ls : List Bs} {lc rem' : Bs} {res' : Nat × Nat} (h : RaI rem res m fs ls lc rem' res') {k : Nat} (hk : k ≤ res'.1) : RaI rem res m fs ls (lc ++ rem'.take k) (rem'.drop k) (res'.1 - k, res'.2) := by
  refine ⟨?_, ?_, h.snd, h.m, h.fs, ?_⟩
  · rw [← h.cat]
    simp only [List.append_assoc]
    rw [← List.take_add, show k + (res'.1 - k) = res'.1 from by omega]
  · rw [List.drop_drop, show k + (res'.1 - k) = res'.1 from by omega]; exact h.left
  · have := h.le; simp only [List.length_drop]; omega

theorem RaI.push {rem : Bs} {res : Nat × Nat} {m fs n : Nat} {ls : List Bs} {lc rem' : Bs} {res' : Nat × Nat} (h : RaI rem res m fs ls lc rem' res') (hn : lc.length = n) : RaI rem res (m + 1) (fs + n) (ls ++ [lc]) [] rem' res' := by
  refine ⟨?_, h.left, h.snd, by simp [h.m], by simp [h.fs, hn], h.le⟩
  rw [← h.cat]; simp

set_option maxRecDepth 100000 in
set_option maxHeartbeats 4000000 in
theorem readAll_any {B : Nat} {g : Nat → Addr} {h : Hs} {S : List Nat} {w : World} {PP MR M : Nat} {bd nl : Bs} {cur : Value} {parts : Nat} {rem : Bs} {res : Nat × Nat} (hp : PtS B g h S w PP MR M bd nl cur parts rem res) (hnl : 0 < nl.length) (hr1 : res.1 ≤ rem.length) (hr2 : res.2 ≤ 1) :
    Calls Tryz.prog 38 #[.iface 52 (.pointer (some ⟨PP, 0, none⟩))] w (RaPost B g h S w PP MR M bd nl cur parts rem res) := by
  have hold := hp.old
  have hSS := hp.far.2.2.2.2.2
  obtain ⟨r0, lb0, lr0, hin0⟩ := hp.ins
  have hBle := hin0.gl.le
  have hrem : rem.length ≤ 3000 := by have := hin0.lt; omega
  clear hin0
  have hPlt : PP < w.heap.size := hold PP (by simp)
  have m1 : ∀ W, (Instr.makeSlice 22 (.int .i64 0) (.int .i64 512)).run Tryz.prog W = .ok (.slice (some ⟨W.heap.size, 0, none⟩) 0 512) (W.alloc (.cells (madeCells #[.int .u8 0] 512) 5)) := fun W => run_make_room (P := Tryz.prog) 22 5 (.int .u8 0) 1 (by kernel_rfl) info5 rfl .i64 .i64 512 (by omega) (by omega) W
  have m2 : ∀ W, (Instr.makeSlice 111 (.int .i64 0) (.int .i64 4)).run Tryz.prog W = .ok (.slice (some ⟨W.heap.size, 0, none⟩) 0 4) (W.alloc (.cells (madeCells #[.slice none 0 0] 4) 22)) := fun W => run_make_room (P := Tryz.prog) 111 22 (.slice none 0 0) 24 (by kernel_rfl) info22s rfl .i64 .i64 4 (by omega) (by omega) W
  have z1 : (madeCells #[.int .u8 0] 512).size = 512 := by simp [madeCells]
  have z2 : (madeCells #[.slice none 0 0] 4).size = 4 := by simp [madeCells]
  generalize madeCells #[.int .u8 0] 512 = Z1 at m1 z1
  generalize madeCells #[.slice none 0 0] 4 = Z2 at m2 z2
  have h0 : RAS B g h S w PP MR M bd nl cur parts ((w.alloc (.cells Z1 5)).alloc (.cells Z2 22)) w.heap.size 0 512 (w.heap.size + 1) 4 [] [] [] rem res := by
    have hc : Chg [] w ((w.alloc (.cells Z1 5)).alloc (.cells Z2 22)) := ((Chg.refl [] w).alloc _).alloc _
    refine ⟨(hp.add (S' := w.heap.size :: (w.heap.size + 1) :: S) (fun x hx => by
        simp only [List.mem_cons] at hx
        rcases hx with h | h | h
        · right; omega
        · right; omega
        · exact .inl h) (fun x hx => by have := hp.far.2.2.2.2.2 x hx; simp [this])).quiet hc, hold, hBle, hc.none, ⟨Z1, (Blk.new w Z1 5).alloc _, z1⟩, ⟨by simp; omega, by simp⟩, ⟨rfl, by omega⟩, ⟨by omega, by omega, by omega⟩, ?_, .nil⟩
    have := World.ownsRow_made (base := w.heap.size) (e := 22) (size := 1) (w.alloc (.cells Z1 5)) Z2 4 (by simp) (by unfold maxLen; omega) (by simp [z2])
    simpa using this
  have hi0 : RaI rem res 0 0 [] [] rem res := ⟨by simp, rfl, rfl, rfl, rfl, hr1⟩
  have H0 := Lib.hid (And.intro h0 hi0); clear h0 hi0 z1 z2 hp
  have HO := Lib.hid (And.intro hold (And.intro hBle (And.intro hr1 (And.intro hr2 hSS)))); clear hold hSS
  go_enter Tryz.func38, Tryz.ntmps38
  go_wp2
  go_loopg [4, 5, 6, 7] res.1 (fun k s4 s5 s6 s7 wr => ∃ (D n c nx q6 c6 m fs : Nat) (vs : List Value) (ls : List Bs) (lc rem' : Bs) (res' : Nat × Nat), s4 = .slice (some ⟨D, 0, none⟩) n c ∧ s5 = .int .i64 (nx : Int) ∧ s6 = .slice (some ⟨q6, 0, none⟩) m c6 ∧ s7 = .int .i64 (fs : Int) ∧
    Hid (RAS B g h S w PP MR M bd nl cur parts wr D n c q6 c6 vs ls lc rem' res' ∧ RaI rem res m fs ls lc rem' res') ∧ res'.1 ≤ k ∧ 256 ≤ nx ∧ nx ≤ 7200 ∧ 2 * nx ≤ 3 * c ∧ 256 ≤ c ∧ c ≤ 9223372036854775807 ∧ fs + n + res'.1 ≤ 3000 ∧ (m = 0 ∧ fs = 0 ∨ 0 < m ∧ 0 < fs) ∧ m ≤ fs ∧ c ≤ 16 * (c - n) + 15 ∧ n < c)
  case atStart =>
    exact ⟨_, 0, 512, 256, _, 4, 0, 0, [], [], [], rem, res, rfl, by simp, by simp, by simp, H0.out, Nat.le_refl _, by omega, by omega, by omega, by omega, by omega, by omega, .inl ⟨rfl, rfl⟩, by omega, by omega, by omega⟩
  case round =>
    obtain ⟨D, n, c, nx, q6, c6, m, fs, vs, ls, lc, rem', res', rfl, rfl, rfl, rfl, hst, hk, hx1, hx2, hx3, hc1, hc2, hf1, hm1, hm2, hroom, hnc⟩ := hrel
    have hst := Lib.hid hst.out
    have hresk : res'.1 ≤ 3000 := by omega
    have hsl : ∀ W, (Instr.slice 22 (.slice (some ⟨D, 0, none⟩) n c) (some (.int .i64 (n : Int))) (some (.int .i64 (c : Int))) none).run Tryz.prog W = .ok (.slice (some ⟨D, n, none⟩) (c - n) (c - n)) W := fun W => by
      rw [slice22_lh (some ⟨D, 0, none⟩) n c .i64 .i64 (n : Int) (c : Int) (by omega) (by omega) (by omega), Int.toNat_natCast, Int.toNat_natCast, subA_some _ _ _ _ hnc, Nat.zero_add]
    have hna : ∀ W, (nilAhead 356 52 (.pointer (some ⟨PP, 0, none⟩)) "Read").run Tryz.prog W = .ok (some false) W := fun W => by kernel_rfl
    obtain ⟨cs0, hb0, hsz0⟩ := hst.out.1.blk
    have hq := hst.out.1.quiet ((Chg.refl [] wr).drew)
    have hDn : D ∉ PP :: MR :: h.all := fun hm => by have := HO.out.1 D hm; have := hst.out.1.new; omega
    have hrd := Lib.hid (partRead2_any (od := n) (L := c - n) (cd := c - n) hq.pt hnl hb0.drew hDn (by have := hst.out.1.new; have := HO.out.2.1; omega) (by simp) (by omega) ⟨by omega, by omega⟩ (by omega))
    unfold PrPost at hrd
    have HB := Lib.hid (And.intro hb0 hsz0); clear hb0 hsz0 hq
    have i1 : (0 : Int) ≤ (n : Int) := by omega
    have i2 : (n : Int) ≤ (c : Int) := by omega
    go_upto_region 5 with (fail)
    go_region_held3 (fun w' => True) (exact trivial) (first | (go_at_call 139; refine hrd.out.mono ?_; rintro e w3 ⟨k3, ev, rfl, hkL, hkr, hev, hc3, hfill, hp3⟩; have hk3 := Lib.hid (And.intro hc3 (And.intro hfill (And.intro hp3 (And.intro hkr hev)))); clear hc3 hfill hp3 hkr))
    obtain ⟨hc3, hfill, hp3, hkr, _⟩ := hk3.out
    have hs3 := (hst.out.1.quiet ((Chg.refl [] wr).drew)).read HB.out.1.drew hc3 (Nat.le_trans hkr hst.out.2.le) hkL hfill hp3
    have hi3 := hst.out.2.read hkr
    obtain ⟨lc3, hlc3⟩ : ∃ x, x = lc ++ rem'.take k3 := ⟨_, rfl⟩
    rw [← hlc3] at hs3 hi3
    have hn3c : n + k3 ≤ c := by omega
    have hn39 : fs + (n + k3) + (res'.1 - k3) ≤ 3000 := by omega
    have hsl1 : ∀ W, (Instr.slice 22 (.slice (some ⟨D, 0, none⟩) n c) none (some (.int .i64 ((n : Int) + (k3 : Int)))) none).run Tryz.prog W = .ok (.slice (some ⟨D, 0, none⟩) (n + k3) c) W := fun W => by
      rw [slice22_h (some ⟨D, 0, none⟩) n c .i64 ((n : Int) + (k3 : Int)) (by omega) (by omega)]; rfl
    have i3 : (0 : Int) ≤ (n : Int) + (k3 : Int) := by omega
    have i4 : (n : Int) + (k3 : Int) ≤ (c : Int) := by omega
    have hg3 := hp3.ins
    have hes : ev = .nilIface ∧ 0 < k3 ∨ ev = erv (g res.2) ∧ k3 = res'.1 := by rw [← hst.out.2.snd]; exact hev
    have HS := Lib.hid (And.intro hs3 hi3)
    clear hc3 hfill hp3 hs3 hi3 hk3 hst HB hrd hlc3 hev
    rcases hes with ⟨rfl, hk0⟩ | ⟨rfl, hkq⟩
    · clear hg3
      by_cases hfull : (c : Int) - ((n : Int) + (k3 : Int)) < (c : Int) / 16
      · have hfull' : ¬ (c : Int) / 16 ≤ (c : Int) - ((n : Int) + (k3 : Int)) := by omega
        obtain ⟨wA, hwA⟩ : ∃ wA, wA = w3.alloc (.cells #[.slice (some ⟨D, 0, none⟩) (n + k3) c] 22) := ⟨_, rfl⟩
        have hm3 : m ≤ 3000 := by omega
        have hrowA := own_to HS.out.1.row ((Chg.refl [] w3).alloc (.cells #[.slice (some ⟨D, 0, none⟩) (n + k3) c] 22)) (by simp)
        rw [HS.out.2.m] at hrowA
        have hbase : w.heap.size ≤ (w3.alloc (.cells #[.slice (some ⟨D, 0, none⟩) (n + k3) c] 22)).heap.size := by have := HS.out.1.chg.size; simp; omega
        have hcst : ∀ ad, (some ⟨w3.heap.size, 0, none⟩ : Option Addr) = some ad → ∀ j z, ([.slice (some ⟨D, 0, none⟩) (n + k3) c] : List Value)[j]? = some z → (w3.alloc (.cells #[.slice (some ⟨D, 0, none⟩) (n + k3) c] 22)).cell? (ad.add j) = some z := by
          intro ad had; cases had
          intro j z hj
          cases j with
          | zero => simp at hj; subst hj; rw [Addr.add_at, Nat.zero_add, (Blk.new w3 _ 22).cell]; rfl
          | succ j => simp at hj
        have hx4 : 0 < nx := by omega
        go_wp2_with (first
          | (at_builtin; (refine wpl_app3 rfl (.tmp 76) (.tmp 78) 111 rfl w.heap.size 22 (.slice none 0 0) 1 24 (by kernel_rfl) info22s rfl (by decide) (by decide) (.slice (some ⟨q6, 0, none⟩) m c6) m vs rfl hrowA (some ⟨w3.heap.size, 0, none⟩) 1 1 [.slice (some ⟨D, 0, none⟩) (n + k3) c] rfl rfl (by intro h; cases h) hcst (by intro z hz; simp at hz; subst hz; rfl) (by omega) hbase ?_; intro v7 w7 ho7 hg7 hloc7; obtain ⟨q7, c7, rfl, hq7, hq7l⟩ := World.ownsRow.form ho7 (Nat.succ_pos _); have ho7 := Lib.hid ho7; have hloc7 := Lib.hid hloc7; have hg7 := Lib.hid hg7; clear hcst hrowA hbase; obtain ⟨cz, Z, hzr, hzs, hzc, hzm⟩ := zeros_run w7 22 nx (by omega) (by omega); have HZ := Lib.hid hzs; clear hzs; have hsz0 : ∀ W, (Instr.slice 22 (.slice (some ⟨w7.heap.size, 0, none⟩) nx cz) none (some (.int .i64 0)) none).run Tryz.prog W = .ok (.slice (some ⟨w7.heap.size, 0, none⟩) 0 cz) W := fun W => slice22_h _ nx cz .i64 0 (by omega) (by omega) W))
          | (at_builtin; refine wpList_append_run _ rfl _ (.tmp 84) 22 3 rfl _ _ rfl rfl _ _ hzr ?_)
          | fail)
        go_roundg (res'.1 - k3)
        case measure => omega
        case rel =>
          refine ⟨w7.heap.size, 0, cz, nx + nx / 2, q7, c7, m + 1, fs + (n + k3), vs ++ [.slice (some ⟨D, 0, none⟩) (n + k3) c], ls ++ [lc3], [], rem'.drop k3, (res'.1 - k3, res'.2), rfl, congrArg (Value.int .i64) (by omega), rfl, congrArg (Value.int .i64) (by omega), ⟨?_, HS.out.2.push HS.out.1.len.1⟩, Nat.le_refl _, by omega, by omega, by omega, by omega, hzm, by omega, .inr ⟨by omega, by omega⟩, by omega, by omega, by omega⟩
          have hmm := HS.out.2.m
          refine HS.out.1.push hg7.out ?_ ?_ HZ.out
          · rw [hmm]; exact ho7.out
          · rcases hloc7.out q7 rfl with h1 | h1
            · left; cases h1; rfl
            · right; exact h1
      · have hfull' : (c : Int) / 16 ≤ (c : Int) - ((n : Int) + (k3 : Int)) := by omega
        go_wp2
        go_roundg (res'.1 - k3)
        case measure => omega
        case rel =>
          exact ⟨D, n + k3, c, nx, q6, c6, m, fs, vs, ls, lc3, rem'.drop k3, (res'.1 - k3, res'.2), rfl, rfl, rfl, rfl, HS.out, Nat.le_refl _, hx1, hx2, hx3, hc1, hc2, hn39, hm1, hm2, by omega, by omega⟩
    · obtain ⟨r3, lb3, lr3, hin3⟩ := hg3
      have c0 := (hin3.gl.err 0 (by omega)).1
      have heq : (binOp .eql 54 (erv (g res.2)) (erv (g 0))).run Tryz.prog w3 = .ok (.bool (decide (res.2 = 0))) w3 := by
        rcases Nat.lt_or_ge 0 res.2 with h1 | h1
        · have h2 : res.2 = 1 := by omega
          rw [h2]
          exact eql_ne (hin3.gl.ea 1 (by omega)) (hin3.gl.ea 0 (by omega)) (Ne.symm hin3.gl.ne.1)
        · have h2 : res.2 = 0 := by omega
          rw [h2]
          exact eql_eq w3 _
      have HIN := Lib.hid hin3
      have HKQ := Lib.hid hkq
      clear hin3 hkq
      obtain ⟨er, hE⟩ : ∃ er, er = (if res.2 = 0 then Value.nilIface else erv (g res.2)) := ⟨_, rfl⟩
      have HE := Lib.hid hE
      clear hE
      go_upto_if 39 with (fail)
      go_cut [9] from 15 to 90 (fun s9 wz => s9 = er ∧ wz = w3)
      case first =>
        rcases Nat.lt_or_ge 0 res.2 with h1 | h1
        · have h2 : ¬ (res.2 = 0) := by omega
          have h3 : er = erv (g res.2) := by rw [HE.out, if_neg h2]
          go_wp2
          go_meet
          exact ⟨h3.symm, rfl⟩
        · have h2 : res.2 = 0 := by omega
          have h3 : er = .nilIface := by rw [HE.out, if_pos h2]
          go_wp2
          go_meet
          exact ⟨h3.symm, rfl⟩
      case rest =>
        obtain ⟨hu9, rfl⟩ := hcut
        subst hu9
        have hcat : ls.flatten ++ lc3 = rem.take res.1 := by
          have := HS.out.2.cat
          rw [HKQ.out] at this
          simpa using this
        have hpt : PtS B g h S wc PP MR M bd nl cur parts (rem.drop res.1) (0, res.2) := by
          have h1 := HS.out.1.pt.add (S' := S) (fun x hx => .inl (by simp [hx])) HO.out.2.2.2.2
          have h2 := HS.out.2.left
          have h3 := HS.out.2.snd
          rw [HKQ.out, Nat.sub_self] at h1 h2
          simp only [List.drop_zero] at h2
          simp only at h3
          rw [h3] at h1
          rw [← h2]; exact h1
        have HF := Lib.hid (And.intro hcat hpt)
        clear hcat hpt heq c0
        by_cases hm0 : m = 0
        · subst hm0
          go_wp2
          go_returns
          have hlz : ls = [] := List.length_eq_zero_iff.1 HS.out.2.m
          refine ⟨_, _, rfl, HE.out, HS.out.1.chg, fun S' hS' => ?_, HF.out.2⟩
          have hcat := HF.out.1
          rw [hlz] at hcat
          simp at hcat
          rw [← hcat]
          exact BS.of_seg HS.out.1.seg HS.out.1.len.1 HS.out.1.len.2 (fun hm => by have := hS' D hm; have := HS.out.1.new; omega)
        · have hm0' : (m == 0) = false := by simpa using hm0
          have hm1' : ¬ ((m : Int) = 0) := by omega
          have hfs : 0 < fs + (n + k3) := by omega
          obtain ⟨cz, Z, hzr, hzs, hzc, hzm⟩ := zeros_run wc 22 (fs + (n + k3)) hfs (by omega)
          have hcst : ((fs + (n + k3) : Nat) : Int) = (fs : Int) + ((n : Int) + (k3 : Int)) := by omega
          rw [hcst] at hzr
          have hsz0 : ∀ W, (Instr.slice 22 (.slice (some ⟨wc.heap.size, 0, none⟩) (fs + (n + k3)) cz) none (some (.int .i64 0)) none).run Tryz.prog W = .ok (.slice (some ⟨wc.heap.size, 0, none⟩) 0 cz) W := fun W => slice22_h _ _ cz .i64 0 (by omega) (by omega) W
          have hrow0 : (wc.drew.alloc (.cells Z 5)).ownsRow wc.heap.size 5 1 (.slice (some ⟨wc.heap.size, 0, none⟩) 0 cz) 0 (([] : Bs).map bv) :=
            World.ownsRow_made (base := wc.heap.size) wc.drew Z cz (Nat.le_refl _) (by unfold maxLen; omega) (by simpa using hzs)
          have hch0 : Chg [] wc (wc.drew.alloc (.cells Z 5)) := ((Chg.refl [] wc).drew).alloc _
          have HZ := Lib.hid (And.intro hrow0 hch0)
          clear hzs hrow0 hch0
          go_wp2_with (first
            | (at_builtin; refine wpList_append_run _ rfl _ (.tmp 49) 22 3 rfl _ _ rfl rfl _ _ hzr ?_)
            | fail)
          clear hzr hcst
          have hws := HS.out.1.chg.size
          go_loopg [10, 54] m (fun k s10 s54 wr2 => ∃ (i L : Nat) (af : Option Addr) (cf : Nat), s54 = .int .i64 (i : Int) ∧ s10 = .slice af L cf ∧ i ≤ m ∧ m - i ≤ k ∧ L ≤ 3000 ∧ Hid (wr2.ownsRow wc.heap.size 5 1 (.slice af L cf) L ((ls.take i).flatten.map bv) ∧ Chg [] wc wr2 ∧ ((ls.take i).flatten).length = L))
          case atStart => exact ⟨0, 0, _, cz, rfl, rfl, by omega, by omega, by omega, HZ.out.1, HZ.out.2, rfl⟩
          case round =>
            obtain ⟨i, L, af, cf, rfl, rfl, him, hik, hL3, hlp⟩ := hrel
            have hlp := Lib.hid hlp.out
            have hcw2 : wc.heap.size ≤ wr.heap.size := hlp.out.2.1.size
            by_cases hlt : i < m
            · obtain ⟨vi, li, hvi, hli, hbi⟩ := HS.out.1.chk.at_ i (by rw [HS.out.2.m]; exact hlt)
              obtain ⟨ai, ci, hve, hlc, hor⟩ := hbi
              subst hve
              obtain ⟨ml, hml⟩ : ∃ ml, ml = li.length := ⟨_, rfl⟩
              have hbi : BS (D :: q6 :: PP :: h.all) wc (.slice ai ml ci) li := ⟨ai, ci, by rw [hml], hlc, hor⟩
              rw [← hml] at hvi
              have HML := Lib.hid hml
              clear hlc hor hml
              have hcell : wr.cell? ⟨q6, i, none⟩ = some (.slice ai ml ci) := by
                have h1 := World.ownsRow.cells HS.out.1.row (g := q6) rfl i _ hvi
                rw [Addr.add_at, Nat.zero_add] at h1
                rw [hlp.out.2.1.cell (p := ⟨q6, i, none⟩) (HS.out.1.row.lt q6 rfl).2 (by simp)]
                exact h1
              have hbi' := hbi.chg hlp.out.2.1.none
              have hlen : L + li.length ≤ 3000 := by
                have h1 := HS.out.2.fs
                have h2 : ((ls.take i).flatten).length + li.length ≤ ls.flatten.length := by
                  have h3 : ls.flatten = (ls.take i).flatten ++ (ls.drop i).flatten := by rw [← List.flatten_append, List.take_append_drop]
                  have h4 : ls.drop i = li :: ls.drop (i + 1) := by
                    have := List.drop_eq_getElem_cons (l := ls) (i := i) (by rw [HS.out.2.m]; exact hlt)
                    rw [List.getElem?_eq_getElem (by rw [HS.out.2.m]; exact hlt)] at hli
                    simp at hli
                    rw [this, hli]
                  rw [h3, h4]
                  simp
                have := hlp.out.2.2
                omega
              have hL6 : L + li.length ≤ 1000000 := by omega
              have hown := hlp.out.1
              have HLI := Lib.hid (And.intro hli hlen)
              clear hli hlen hvi hbi
              go_wp2_with (first
                | (at_builtin; (refine wpl_app_bytes2 rfl (.tmp 58) (.tmp 59) rfl wc.heap.size (.slice af L cf) L _ rfl hown _ (.slice ai ml ci) li rfl hbi' hL6 hcw2 ?_; intro v7 w7 ho7 hg7 hloc7; obtain ⟨a7, c7, rfl, hac7⟩ : ∃ a c, v7 = .slice a (L + li.length) c ∧ L + li.length ≤ c := Go.Proofs.YtekndndhgkdggaaGreatDoor.own_form ho7; have ho7 := Lib.hid ho7; have hg7 := Lib.hid hg7; clear hloc7 hown hbi'))
                | fail)
              go_roundg (m - (i + 1))
              case measure => omega
              case rel =>
                refine ⟨i + 1, L + li.length, a7, c7, by go_num, rfl, by omega, Nat.le_refl _, HLI.out.2, ?_, ?_, ?_⟩
                · rw [List.take_add_one, HLI.out.1]
                  simpa using ho7.out
                · exact hlp.out.2.1.grown hg7.out (fun k hk => .inr (hlp.out.1.lt k hk).1)
                · rw [List.take_add_one, HLI.out.1]
                  simp [hlp.out.2.2]
            · have hie : i = m := by omega
              have HIE := Lib.hid hie
              clear hie
              have hown := hlp.out.1
              have hbb : BS [] wr (.slice (some ⟨D, 0, none⟩) (n + k3) c) lc3 := BS.of_seg (HS.out.1.seg.chg hlp.out.2.1 (by simp)) HS.out.1.len.1 HS.out.1.len.2 (by simp)
              have hL6 : L + lc3.length ≤ 1000000 := by have := HS.out.1.len.1; omega
              go_wp2_with (first
                | (at_builtin; (refine wpl_app_bytes2 rfl (.tmp 62) (.tmp 63) rfl wc.heap.size (.slice af L cf) L _ rfl hown [] _ lc3 rfl hbb hL6 hcw2 ?_; intro v7 w7 ho7 hg7 hloc7; have ho7 := Lib.hid ho7; have hg7 := Lib.hid hg7; clear hloc7 hown hbb))
                | fail)
              go_returns
              have hfin : Chg [] wc w7 := hlp.out.2.1.grown hg7.out (fun k hk => .inr (hlp.out.1.lt k hk).1)
              refine ⟨_, _, rfl, HE.out, HS.out.1.chg.trans hfin.none, fun S' hS' => ?_, HF.out.2.quiet hfin⟩
              have ho := ho7.out
              rw [HIE.out, List.take_of_length_le (by rw [HS.out.2.m]; exact Nat.le_refl _), HF.out.1] at ho
              exact BS.of_own ho (fun x hx => by have := hS' x hx; omega)
end Go.Proofs.YtekndndhgkdggaaGreatDoor

namespace Go.Proofs.YtekndndhgkdggaaGreatDoor
open Go.RowKit

def WhPost (B : Nat) (g : Nat → Addr) (h : Hs) (S : List Nat) (w : World) (PP MR M : Nat) (bd nl : Bs) (cur : Value) (parts : Nat) (rem : Bs) (res : Nat × Nat) (fs : Flds) (e : Ending) (w' : World) : Prop :=
  ∃ fv u, e = .returned (.agg #[fv, u, .int .i64 (res.2 : Int)]) ∧ (∃ a n c, fv = .slice a n c) ∧ (∃ a n c, u = .slice a n c) ∧ (∀ S', (∀ x ∈ S', x < w.heap.size) → FldS S' w' fv fs ∧ BS S' w' u (rem.take res.1)) ∧ Chg (PP :: h.all) w w' ∧ PtS B g h S w' PP MR M bd nl cur parts (rem.drop res.1) (0, res.2)

set_option maxRecDepth 100000 in
set_option maxHeartbeats 4000000 in
theorem whole_any {B : Nat} {g : Nat → Addr} {h : Hs} {S : List Nat} {w : World} {PP MR M : Nat} {bd nl : Bs} {cur : Value} {parts : Nat} {rem : Bs} {res : Nat × Nat} {base SB ns n : Nat} {gs : List GF} (hp : PtS B g h S w PP MR M bd nl cur parts rem res) (hnl : 0 < nl.length) (hr1 : res.1 ≤ rem.length) (hr2 : res.2 ≤ 1)
    (hm : MapS base SB ns w M n gs) (hn : n ≤ 3000) :
    Calls Tryz.prog 19 #[.pointer (some ⟨PP, 0, none⟩)] w (WhPost B g h S w PP MR M bd nl cur parts rem res (fsOf gs)) := by
  obtain ⟨wa, hwa⟩ : ∃ wa, wa = w.alloc (.cells #[.slice none 0 0, .slice none 0 0, .int .i64 0] 44) := ⟨_, rfl⟩
  have hca : Chg [] w wa := by rw [hwa]; exact (Chg.refl [] w).alloc _
  have hba : Blk wa w.heap.size #[.slice none 0 0, .slice none 0 0, .int .i64 0] 44 := by rw [hwa]; exact Blk.new _ _ _
  have hsa : wa.heap.size = w.heap.size + 1 := by rw [hwa]; simp
  obtain ⟨pn, pt, pf, pe, hpb, _⟩ := hp.ex
  have hfl := Lib.hid (fields_any (hm.chg hca (by simp) (by simp)) (hpb.chg hca (by simp)) rfl hn)
  unfold FlPost at hfl
  have hold := hp.old
  have HA := Lib.hid (And.intro hca (And.intro hba (And.intro hsa (And.intro hp hold)))); clear hca hba hsa hp hpb hm hold
  have hrem3 : rem.length ≤ 3000 := by obtain ⟨_, _, _, hin⟩ := HA.out.2.2.2.1.ins; have := hin.lt; omega
  go_enter Tryz.func19, Tryz.ntmps19
  go_wp2_with fail
  rw [← hwa]
  clear hwa
  refine hfl.out.mono ?_
  rintro e w1 ⟨v, gs', rfl, hF, hfs, hc1⟩
  obtain ⟨av, cv, rfl, hcv⟩ := own_form hF.row
  have hblk := hF.blk
  have H1 := Lib.hid (And.intro hF (And.intro hfs (And.intro hc1 hblk))); clear hF hfs hc1 hblk hfl
  obtain ⟨w2, hw2⟩ : ∃ w2, w2 = w1.alloc (.cells #[.slice av gs'.length cv, .slice none 0 0, .int .i64 0] 44) := ⟨_, rfl⟩
  have hc2 : Chg [] w w2 := by rw [hw2]; exact (HA.out.1.trans H1.out.2.2.1).alloc _
  have hb2 : Blk w2 w1.heap.size #[.slice av gs'.length cv, .slice none 0 0, .int .i64 0] 44 := by rw [hw2]; exact Blk.new _ _ _
  have hs2 : w2.heap.size = w1.heap.size + 1 := by rw [hw2]; simp
  have hF2 : ∀ S', (∀ x ∈ S', x ≤ w.heap.size ∨ w1.heap.size ≤ x) → FldS S' w2 (.slice av gs'.length cv) (fsOf gs) := fun S' hS' => by
    have h1 := FldS.of_own (S := S') H1.out.1 (fun x hx hm => by have := H1.out.2.2.2 x hm; have := hS' x hx; have := HA.out.2.2.1; omega)
    rw [H1.out.2.1] at h1
    rw [hw2]
    exact h1.chg ((Chg.refl S' w1).alloc _)
  have hSS := HA.out.2.2.2.1.far.2.2.2.2.2
  have hlt1 : w.heap.size < w1.heap.size := by have := H1.out.2.2.1.size; have := HA.out.2.2.1; omega
  have hra := Lib.hid (readAll_any ((HA.out.2.2.2.1.add (S' := w.heap.size :: w1.heap.size :: S) (fun x hx => by
    rcases List.mem_cons.1 hx with rfl | hx
    · exact .inr (Nat.le_refl _)
    · rcases List.mem_cons.1 hx with rfl | hx
      · right; omega
      · exact .inl hx) (fun x hx => by simp [hSS x hx])).quiet hc2) hnl hr1 hr2)
  unfold RaPost at hra
  have hcaw : Chg [] wa w2 := by rw [hw2]; exact H1.out.2.2.1.alloc _
  have hbw2 := HA.out.2.1.chg hcaw (by simp)
  have H2 := Lib.hid (And.intro hc2 (And.intro hb2 (And.intro hs2 (And.intro hF2 hbw2)))); clear hc2 hb2 hs2 hF2 hbw2
  go_wp2_with fail
  rw [← hw2]
  clear hw2
  refine hra.out.mono ?_
  rintro e w3 ⟨v3, er, rfl, her, hc3, hbs3, hp3⟩
  clear hra
  have hold := HA.out.2.2.2.2
  have hD : w1.heap.size ∉ PP :: h.all := fun hm => by have := hold w1.heap.size (by rcases List.mem_cons.1 hm with e | hm <;> simp [*]); omega
  have hR : w.heap.size ∉ PP :: h.all := fun hm => by have := hold w.heap.size (by rcases List.mem_cons.1 hm with e | hm <;> simp [*]); omega
  have hb3 := H2.out.2.1.chg hc3 hD
  have hbr3 := H2.out.2.2.2.2.chg hc3 hR
  have hq : Chg [] w3 (w3.alloc (.cells #[] 5)) := (Chg.refl [] w3).alloc _
  have hsz3 := hc3.size
  have hown3 : (w3.alloc (.cells #[] 5)).ownsRow w3.heap.size 5 1 (.slice (some ⟨w3.heap.size, 0, none⟩) 0 0) 0 (([] : Bs).map bv) := World.ownsRow_made w3 #[] 0 (Nat.le_refl _) (by unfold maxLen; omega) rfl
  have hbs3' := (hbs3 [] (by simp)).chg hq
  have hbase : w3.heap.size ≤ (w3.alloc (.cells #[] 5)).heap.size := by simp
  have hn3 : 0 + (rem.take res.1).length ≤ 1000000 := by simp; omega
  obtain ⟨a3, c3, rfl, hlc3, _⟩ := id (hbs3 [] (by simp))
  have hb0 : ∀ W, (Instr.buildSlice 22 0 #[]).run Tryz.prog W = .ok (.slice (some ⟨W.heap.size, 0, none⟩) 0 0) (W.alloc (.cells #[] 5)) := fun W => by kernel_rfl
  obtain ⟨rr, hrr⟩ : ∃ rr, rr = res.2 := ⟨_, rfl⟩
  obtain ⟨r3, lb3, lr3, hin3⟩ := hp3.ins
  have hgl := hin3.gl
  have H3 := Lib.hid (And.intro hc3 (And.intro hp3 (And.intro hb3 (And.intro hbr3 (And.intro hgl (And.intro hq hD)))))); clear hc3 hp3 hb3 hbr3 hbs3 hq hin3 hgl
  rw [← hrr] at her hr2
  have HRR := Lib.hid hrr; clear hrr
  generalize hbody : rem.take res.1 = body at *
  have HBY := Lib.hid hbody; clear hbody
  have hmid : Hid (∀ w7 v7, (w3.alloc (.cells #[] 5)).grownBy w7 (some w3.heap.size) → w7.ownsRow w3.heap.size 5 1 v7 body.length (body.map bv) → Chg [] w3 w7 ∧ Blk w7 w1.heap.size #[.slice av gs'.length cv, .slice none 0 0, .int .i64 0] 44 ∧ Blk w7 w.heap.size #[.slice none 0 0, .slice none 0 0, .int .i64 0] 44 ∧ w7.cell? ⟨1, 0, none⟩ = some (erv (g 1)) ∧ w1.heap.size < w3.heap.size) := fun w7 v7 hg ho => by
    have hc7 : Chg [] w3 w7 := H3.out.2.2.2.2.2.1.grown hg (fun k hk => .inr (by cases hk; exact Nat.le_refl _))
    refine ⟨hc7, H3.out.2.2.1.chg hc7 (by simp), H3.out.2.2.2.1.chg hc7 (by simp), ?_, by have := H2.out.2.2.1; omega⟩
    exact ((H3.out.2.2.2.2.1.chg hc7 (by simp)).err 1 (by omega)).1
  have hrr : rr = 0 ∨ rr = 1 := by omega
  have hnn : w.heap.size ≠ w1.heap.size := Nat.ne_of_lt hlt1
  have hBle : B ≤ w.heap.size := by obtain ⟨_, _, _, hin⟩ := HA.out.2.2.2.1.ins; exact hin.gl.le
  have FIN : ∀ w7 a7 c7 wf, Chg [] w3 w7 → w7.ownsRow w3.heap.size 5 1 (.slice a7 body.length c7) body.length (body.map bv) → Chg [w.heap.size, w1.heap.size] w7 wf → WhPost B g h S w PP MR M bd nl cur parts rem res (fsOf gs) (.returned (.agg #[.slice av gs'.length cv, .slice a7 body.length c7, .int .i64 (rr : Int)])) wf := fun w7 a7 c7 wf hc7 ho7 hcf => by
    have hs32 := H3.out.1.size
    have hs21 := H2.out.2.2.1
    refine ⟨_, _, by rw [HRR.out], ⟨_, _, _, rfl⟩, ⟨_, _, _, rfl⟩, fun S' hS' => ⟨?_, ?_⟩, ?_, ?_⟩
    · have h1 := H2.out.2.2.2.1 (w.heap.size :: w1.heap.size :: (PP :: h.all ++ S')) (fun x hx => by
        rcases List.mem_cons.1 hx with rfl | hx
        · exact .inl (Nat.le_refl _)
        · rcases List.mem_cons.1 hx with rfl | hx
          · exact .inr (Nat.le_refl _)
          · rcases List.mem_append.1 hx with hx | hx
            · have := HA.out.2.2.2.2 x (by rcases List.mem_cons.1 hx with e | hm <;> simp [*]); left; omega
            · have := hS' x hx; left; omega)
      have h2 := ((h1.chg (H3.out.1.mono (fun x hx => by rcases List.mem_cons.1 hx with e | hm <;> simp [*]))).chg (hc7.none)).chg (hcf.mono (fun x hx => by simp at hx; rcases hx with h | h <;> simp [h]))
      exact h2.add (fun x hx => .inl (by simp [hx]))
    · have h1 := BS.of_own (S := w.heap.size :: w1.heap.size :: S') ho7 (fun x hx => by
        rcases List.mem_cons.1 hx with rfl | hx
        · omega
        · rcases List.mem_cons.1 hx with rfl | hx
          · omega
          · have := hS' x hx; omega)
      have h2 := h1.chg (hcf.mono (fun x hx => by simp at hx; rcases hx with h | h <;> simp [h]))
      rw [HBY.out]
      exact h2.mono (fun x hx => by simp [hx])
    · exact ((H2.out.1.none.trans H3.out.1).trans hc7.none).thn hcf (fun x hx => by simp at hx; right; omega)
    · have h1 := (H3.out.2.1.quiet hc7).turn hcf (fun x hx => by
        simp at hx
        refine ⟨by simp; omega, by omega, fun hm => ?_⟩
        have := HA.out.2.2.2.2 x (by rcases List.mem_cons.1 hm with e | hm <;> simp [*]); omega)
      exact h1.add (fun x hx => .inl (by simp [hx])) hSS
  have hB20 : 15 ≤ w1.heap.size := by have := H3.out.2.2.2.2.1.lo; omega
  have HFIN := Lib.hid FIN; clear FIN hSS hBle
  clear hr2
  rcases hrr with rfl | rfl
  · rw [if_pos rfl] at her
    subst her
    go_wp2_with (first
      | (at_builtin; (refine wpl_app_bytes2 rfl (.tmp 15) (.tmp 16) rfl w3.heap.size (.slice (some ⟨w3.heap.size, 0, none⟩) 0 0) 0 [] rfl hown3 [] _ body rfl hbs3' hn3 hbase ?_; intro v7 w7 ho7 hg7 hloc7; rw [Nat.zero_add, List.nil_append] at ho7; obtain ⟨a7, c7, rfl, hac7⟩ := own_form ho7; obtain ⟨hc7, hb7, hbr7, hg17, hlt17⟩ := hmid.out w7 _ hg7 ho7; have e1 : w7.cell? ⟨w1.heap.size, 1, none⟩ = some (.slice none 0 0) := hb7.cell 1; have f1 : w7.frozen? ⟨w1.heap.size, 1, none⟩ = false := hb7.free 1; have hb8 := hb7.set 1 (.slice a7 body.length c7); have hbr8 := hbr7.set_ne (p := ⟨w1.heap.size, 1, none⟩) (Nat.ne_of_lt hlt1) (.slice a7 body.length c7); have d0 := hb8.cell 0; have d1 := hb8.cell 1; have d2 := hb8.cell 2; have df := hb8.free 2; have q0 := hbr8.cell 0; have q1 := hbr8.cell 1; have q2 := hbr8.cell 2; have z0 := hbr8.free 0; have z1 := hbr8.free 1; have z2 := hbr8.free 2; have H7 := Lib.hid (And.intro hc7 (And.intro hb8 (And.intro hbr8 ho7))); clear hc7 hb7 hb8 hbr7 hbr8 ho7 hg7 hloc7))
      | fail)
    have hR3 := ((H7.out.2.2.1.set 0 (.slice av gs'.length cv)).set 1 (.slice a7 body.length c7)).set 2 (.int .i64 0)
    obtain ⟨wz, hwz⟩ : ∃ wz, wz = (((w7.setCell ⟨w1.heap.size, 1, none⟩ (.slice a7 body.length c7)).setCell ⟨w.heap.size, 0, none⟩ (.slice av gs'.length cv)).setCell ⟨w.heap.size, 1, none⟩ (.slice a7 body.length c7)).setCell ⟨w.heap.size, 2, none⟩ (.int .i64 0) := ⟨_, rfl⟩
    have hcz : Chg [w.heap.size, w1.heap.size] w7 wz := by
      rw [hwz]
      exact ((((Chg.refl _ w7).setCell (.inl (by simp)) _).setCell (.inl (by simp)) _).setCell (.inl (by simp)) _).setCell (.inl (by simp)) _
    rw [← hwz] at hR3 ⊢
    have y0 : wz.cell? ⟨w.heap.size, 0, none⟩ = some (.slice av gs'.length cv) := hR3.cell 0
    have y1 : wz.cell? ⟨w.heap.size, 1, none⟩ = some (.slice a7 body.length c7) := hR3.cell 1
    have y2 : wz.cell? ⟨w.heap.size, 2, none⟩ = some (.int .i64 0) := hR3.cell 2
    refine bodyPost_ret (v := .agg #[.slice av gs'.length cv, .slice a7 body.length c7, .int .i64 0]) (by simp [results, Tryz.results19, go_sem, y0, y1, y2]) rfl ?_
    exact HFIN.out w7 a7 c7 wz H7.out.1 H7.out.2.2.2 hcz
  · rw [if_neg (by omega)] at her
    subst her
    have heq := fun W => eql_eq W (g 1)
    have hg18 : ∀ (wq : World) V, wq.cell? ⟨1, 0, none⟩ = some (erv (g 1)) → (wq.setCell ⟨w1.heap.size, 1, none⟩ V).cell? ⟨1, 0, none⟩ = some (erv (g 1)) := fun wq V hq => by
      have hlt : 1 < wq.heap.size := by
        rcases Nat.lt_or_ge 1 wq.heap.size with h | h
        · exact h
        · simp [World.cell?, Array.getElem?_eq_none h] at hq
      rw [((Chg.refl [w1.heap.size] wq).setCell (.inl (by simp)) V).cell (p := ⟨1, 0, none⟩) hlt (by have := H3.out.2.2.2.2.1.lo; have := H3.out.2.2.2.2.1.le; have := HA.out.2.2.1; have := hB20; simp; omega)]
      exact hq
    go_wp2_with (first
      | (at_builtin; (refine wpl_app_bytes2 rfl (.tmp 15) (.tmp 16) rfl w3.heap.size (.slice (some ⟨w3.heap.size, 0, none⟩) 0 0) 0 [] rfl hown3 [] _ body rfl hbs3' hn3 hbase ?_; intro v7 w7 ho7 hg7 hloc7; rw [Nat.zero_add, List.nil_append] at ho7; obtain ⟨a7, c7, rfl, hac7⟩ := own_form ho7; obtain ⟨hc7, hb7, hbr7, hg17, hlt17⟩ := hmid.out w7 _ hg7 ho7; have e1 : w7.cell? ⟨w1.heap.size, 1, none⟩ = some (.slice none 0 0) := hb7.cell 1; have f1 : w7.frozen? ⟨w1.heap.size, 1, none⟩ = false := hb7.free 1; have hb8 := hb7.set 1 (.slice a7 body.length c7); have hbr8 := hbr7.set_ne (p := ⟨w1.heap.size, 1, none⟩) (Nat.ne_of_lt hlt1) (.slice a7 body.length c7); have d0 := hb8.cell 0; have d1 := hb8.cell 1; have d2 := hb8.cell 2; have df := hb8.free 2; have q0 := hbr8.cell 0; have q1 := hbr8.cell 1; have q2 := hbr8.cell 2; have hb9 := hb8.set 2 (.int .i64 1); have hbr9 := hbr8.set_ne (p := ⟨w1.heap.size, 2, none⟩) (Nat.ne_of_lt hlt1) (.int .i64 1); have d90 := hb9.cell 0; have d91 := hb9.cell 1; have d92 := hb9.cell 2; have q90 := hbr9.cell 0; have q91 := hbr9.cell 1; have q92 := hbr9.cell 2; have z90 := hbr9.free 0; have z91 := hbr9.free 1; have z92 := hbr9.free 2; have g18 : (w7.setCell ⟨w1.heap.size, 1, none⟩ (.slice a7 body.length c7)).cell? ⟨1, 0, none⟩ = some (erv (g 1)) := hg18 w7 _ hg17; have z0 := hbr8.free 0; have z1 := hbr8.free 1; have z2 := hbr8.free 2; have H7 := Lib.hid (And.intro hc7 (And.intro hb9 (And.intro hbr9 ho7))); clear hb9 hbr9 hc7 hb7 hb8 hbr7 hbr8 ho7 hg7 hloc7))
      | fail)
    have hR3 := ((H7.out.2.2.1.set 0 (.slice av gs'.length cv)).set 1 (.slice a7 body.length c7)).set 2 (.int .i64 1)
    obtain ⟨wz, hwz⟩ : ∃ wz, wz = ((((w7.setCell ⟨w1.heap.size, 1, none⟩ (.slice a7 body.length c7)).setCell ⟨w1.heap.size, 2, none⟩ (.int .i64 1)).setCell ⟨w.heap.size, 0, none⟩ (.slice av gs'.length cv)).setCell ⟨w.heap.size, 1, none⟩ (.slice a7 body.length c7)).setCell ⟨w.heap.size, 2, none⟩ (.int .i64 1) := ⟨_, rfl⟩
    have hcz : Chg [w.heap.size, w1.heap.size] w7 wz := by
      rw [hwz]
      exact (((((Chg.refl _ w7).setCell (.inl (by simp)) _).setCell (.inl (by simp)) _).setCell (.inl (by simp)) _).setCell (.inl (by simp)) _).setCell (.inl (by simp)) _
    rw [← hwz] at hR3 ⊢
    have y0 : wz.cell? ⟨w.heap.size, 0, none⟩ = some (.slice av gs'.length cv) := hR3.cell 0
    have y1 : wz.cell? ⟨w.heap.size, 1, none⟩ = some (.slice a7 body.length c7) := hR3.cell 1
    have y2 : wz.cell? ⟨w.heap.size, 2, none⟩ = some (.int .i64 1) := hR3.cell 2
    refine bodyPost_ret (v := .agg #[.slice av gs'.length cv, .slice a7 body.length c7, .int .i64 1]) (by simp [results, Tryz.results19, go_sem, y0, y1, y2]) rfl ?_
    exact HFIN.out w7 a7 c7 wz H7.out.1 H7.out.2.2.2 hcz
end Go.Proofs.YtekndndhgkdggaaGreatDoor
