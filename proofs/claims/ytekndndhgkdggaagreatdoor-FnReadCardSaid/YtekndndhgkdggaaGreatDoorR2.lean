/- Append onto a row that the call owns, whatever is appended; rows of bytes. Append onto an owned row, told with where the row lies behind it; copy within a row of cells of whatever size. Lists of fields in memory that the call owns; the reference's put. The reference's next. The reference's key. -/
import Derived.Test.YtekndndhgkdggaaGreatDoorR1
import Derived.Laws.AppendOwnNone
import Derived.Laws.CopyOwn
import Derived.StillTailTactics
import Derived.Deep.DeepCutAuto
import Derived.Deep.CutBlock
namespace Go.Proofs.YtekndndhgkdggaaGreatDoor
open Go.RowKit

theorem info5 : (Tryz.prog.info? 5).map (fun i => (i.zero, i.size, i.bytes)) = some (some (.int .u8 0), 1, 1) := by kernel_rfl
theorem info9 : (Tryz.prog.info? 9).map (fun i => (i.zero, i.size, i.bytes)) = some (some (.string ByteArray.empty), 1, 16) := by kernel_rfl
theorem info22 : (Tryz.prog.info? 22).map (fun i => (i.zero, i.size, i.bytes)) = some (some (.slice none 0 0), 1, 24) := by kernel_rfl
theorem info61 : (Tryz.prog.info? 61).map (fun i => (i.zero, i.size, i.bytes)) = some (some (.agg #[.string ByteArray.empty, .slice none 0 0]), 2, 40) := by kernel_rfl
theorem info44 : (Tryz.prog.info? 44).map (fun i => (i.zero, i.size, i.bytes)) = some (some (.agg #[.slice none 0 0, .slice none 0 0, .int .i64 0]), 3, 56) := by kernel_rfl

theorem wpl_app {w : World} {ops : Array Oper} {rest : List Oper} {o : Oper} {a : Act} {Q : Exit → Act → World → Prop} (hgd : o.guard = none) (s x : Operand) (t : TypeId)
    (ho : o.op = .call { callee := .builtin .append, args := #[s, x], argTypes := #[t, t] })
    (base : Nat) (e : TypeId) (z : Value) (size bytes : Nat) (ht : Tryz.prog.underlying t = some (.slice e))
    (hinfo : (Tryz.prog.info? e).map (fun i => (i.zero, i.size, i.bytes)) = some (some z, size, bytes)) (hzs : z.cells.size = size) (hsz : 0 < size) (hby : bytes ≤ 100)
    (v : Value) (n : Nat) (xs : List Value) (hs : a.eval s = v) (hown : w.ownsRow base e size v n xs)
    (sv : Option Addr) (m c : Nat) (news : List Value) (hx : a.eval x = .slice sv m c) (hl : news.length = m * size)
    (hnone : sv = none → m = 0 ∧ c = 0) (hnews : ∀ ad, sv = some ad → ∀ j u, news[j]? = some u → w.cell? (ad.add j) = some u) (h1 : ∀ u ∈ news, u.oneCell' = true)
    (hb : n + m ≤ 1000000) (hbase : base ≤ w.heap.size)
    (h : ∀ v' w', w'.ownsRow base e size v' (n + m) (xs ++ news) → w.grownBy w' v.ownBlock → (v' = .slice none 0 0 ↔ v = .slice none 0 0 ∧ m = 0) → wpList Tryz.prog ops Q rest (a.put o.dst v') w') :
    wpList Tryz.prog ops Q (o :: rest) a w := by
  obtain ⟨i, hi, hz0, hz1, hz2⟩ := info_parts hinfo
  cases sv with
  | some ad =>
    exact wpList_append_own (w := w) hgd s x t ho base e i z size bytes ht hi hz0 hz1 hz2 hzs hsz v n xs hs hown ad m c news hx hl (hnews ad rfl) h1
      (by unfold maxLen; omega) (by have : (n + m) * bytes ≤ 1000000 * 100 := Nat.mul_le_mul hb hby; omega) hbase h
  | none =>
    obtain ⟨rfl, rfl⟩ := hnone rfl
    have hnews : news = [] := List.eq_nil_of_length_eq_zero (by simpa using hl)
    subst hnews
    refine wpList_plain hgd fun K hK' => ?_
    have hrun := run_append_owned_none (P := Tryz.prog) w base t o.type e i size ht hi v n xs hown
    unfold Oper.wp
    simp [execOp, ho, resolve, invoke, builtin, hs, hx, hrun, Result.andThen]
    exact hK' _ _ (h v w (by simpa using hown) (World.grownBy.refl _ _) (by simp))

theorem bv_one (l : Bs) : ∀ u ∈ l.map bv, u.oneCell' = true := by
  intro u hu; rw [List.mem_map] at hu; obtain ⟨x, _, rfl⟩ := hu; rfl

theorem Addr.add_at (b o j : Nat) : (⟨b, o, none⟩ : Addr).add j = ⟨b, o + j, none⟩ := by
  unfold Addr.add; split
  · subst j; rfl
  · rfl

/-- append(s, x...) of bytes -/
theorem wpl_app_bytes {w : World} {ops : Array Oper} {rest : List Oper} {o : Oper} {a : Act} {Q : Exit → Act → World → Prop} (hgd : o.guard = none) (s x : Operand)
    (ho : o.op = .call { callee := .builtin .append, args := #[s, x], argTypes := #[22, 22] })
    (base : Nat) (v : Value) (n : Nat) (l : Bs) (hs : a.eval s = v) (hown : w.ownsRow base 5 1 v n (l.map bv))
    (S : List Nat) (sv : Value) (m : Bs) (hx : a.eval x = sv) (hm : BS S w sv m)
    (hb : n + m.length ≤ 1000000) (hbase : base ≤ w.heap.size)
    (h : ∀ v' w', w'.ownsRow base 5 1 v' (n + m.length) ((l ++ m).map bv) → w.grownBy w' v.ownBlock → (v' = .slice none 0 0 ↔ v = .slice none 0 0 ∧ m.length = 0) → wpList Tryz.prog ops Q rest (a.put o.dst v') w') :
    wpList Tryz.prog ops Q (o :: rest) a w := by
  obtain ⟨a', c, rfl, hlc, hor⟩ := hm
  refine wpl_app hgd s x 22 ho base 5 (.int .u8 0) 1 1 (by kernel_rfl) info5 rfl (by decide) (by decide) v n (l.map bv) hs hown a' m.length c (m.map bv) hx (by simp) ?_ ?_ (bv_one m) hb hbase ?_
  · rintro rfl; rcases hor with ⟨_, rfl, rfl⟩ | ⟨b, o, h, _⟩
    · simp
    · cases h
  · rintro ad rfl j u hj
    rcases hor with ⟨h, _⟩ | ⟨b, o, h, _, hseg⟩
    · cases h
    · cases h
      have hjl : j < m.length := by
        rcases Nat.lt_or_ge j m.length with h | h
        · exact h
        · rw [List.getElem?_eq_none (by simpa using h)] at hj; cases hj
      rw [Addr.add_at, hseg.cell j hjl]
      simp [List.getElem?_eq_getElem hjl] at hj
      simp [List.getD, List.getElem?_eq_getElem hjl, ← hj]
  · intro v' w' h1 h2 h3
    exact h v' w' (by simpa using h1) h2 h3

/-- what an owned row of bytes holds, as a slice -/
theorem BS.of_own {w : World} {base : Nat} {v : Value} {n : Nat} {l : Bs} {S : List Nat} (h : w.ownsRow base 5 1 v n (l.map bv)) (hS : ∀ x, x ∈ S → x < base) : BS S w v l := by
  obtain ⟨hlen, hor⟩ := h
  have hn : l.length = n := by simpa using hlen
  rcases hor with ⟨rfl, rfl⟩ | ⟨g, cap, cur, rfl, hg, hh, hnc, hcm, hsz, htk⟩
  · have : l = [] := List.eq_nil_of_length_eq_zero hn
    subst this; exact BS.nil _ _
  · refine BS.of_seg ⟨?_, ?_⟩ hn hnc (fun hm => by have := hS g hm; omega)
    · rcases Nat.lt_or_ge g w.heap.size with h2 | h2
      · exact h2
      · rw [Array.getElem?_eq_none h2] at hh; cases hh
    · intro i hi
      have hc : w.cell? ⟨g, 0 + i, none⟩ = cur[i]? := by simp [World.cell?, hh]
      rw [hc]
      have h2 : (cur.toList.take (n * 1))[i]? = (l.map bv)[i]? := by rw [htk]
      rw [List.getElem?_take_of_lt (by omega), Array.getElem?_toList] at h2
      rw [h2]; simp [List.getD, List.getElem?_eq_getElem hi]

theorem own_size {w : World} {base : Nat} {e : TypeId} {size : Nat} {v : Value} {n : Nat} {xs : List Value} (h : w.ownsRow base e size v n xs) (g : Nat) (hg : v.ownBlock = some g) : base ≤ g ∧ g < w.heap.size := h.lt g hg

/-- an owned row goes on owned where none of its blocks turns -/
theorem own_chg {w w' : World} {base : Nat} {e : TypeId} {size : Nat} {v : Value} {n : Nat} {xs : List Value} {S : List Nat} (h : w.ownsRow base e size v n xs) (hc : Chg S w w') (hS : ∀ g, v.ownBlock = some g → g ∉ S) : w'.ownsRow base e size v n xs := by
  refine ⟨h.1, ?_⟩
  rcases h.2 with h2 | ⟨g, cap, cur, rfl, hg, hh, r⟩
  · exact .inl h2
  · refine .inr ⟨g, cap, cur, rfl, hg, ?_, r⟩
    have hlt := (h.lt g rfl).2
    rw [hc.block g hlt (hS g rfl)]; exact hh
end Go.Proofs.YtekndndhgkdggaaGreatDoor

namespace Go.Proofs.YtekndndhgkdggaaGreatDoor
open Go.RowKit


theorem wpl_app2 {w : World} {ops : Array Oper} {rest : List Oper} {o : Oper} {a : Act} {Q : Exit → Act → World → Prop} (hgd : o.guard = none) (s x : Operand) (t : TypeId)
    (ho : o.op = .call { callee := .builtin .append, args := #[s, x], argTypes := #[t, t] })
    (base : Nat) (e : TypeId) (z : Value) (size bytes : Nat) (ht : Tryz.prog.underlying t = some (.slice e))
    (hinfo : (Tryz.prog.info? e).map (fun i => (i.zero, i.size, i.bytes)) = some (some z, size, bytes)) (hzs : z.cells.size = size) (hsz : 0 < size) (hby : bytes ≤ 100)
    (v : Value) (n : Nat) (xs : List Value) (hs : a.eval s = v) (hown : w.ownsRow base e size v n xs)
    (ad : Addr) (m c : Nat) (news : List Value) (hx : a.eval x = .slice (some ad) m c) (hl : news.length = m * size)
    (hnews : ∀ j u, news[j]? = some u → w.cell? (ad.add j) = some u) (h1 : ∀ u ∈ news, u.oneCell' = true) (hm : 0 < m)
    (hb : n + m ≤ 1000000) (hbase : base ≤ w.heap.size)
    (h : ∀ v' w', w'.ownsRow base e size v' (n + m) (xs ++ news) → w.grownBy w' v.ownBlock → (∃ g c', v' = .slice (some ⟨g, 0, none⟩) (n + m) c' ∧ (some g = v.ownBlock ∨ g = w.heap.size)) → wpList Tryz.prog ops Q rest (a.put o.dst v') w') :
    wpList Tryz.prog ops Q (o :: rest) a w := by
  obtain ⟨i, hi, hz0, hz1, hz2⟩ := info_parts hinfo
  have hby2 : (n + m) * bytes ≤ 140737488355328 := by have : (n + m) * bytes ≤ 1000000 * 100 := Nat.mul_le_mul hb hby; omega
  have h63 : n + m ≤ maxLen := by unfold maxLen; omega
  refine wpList_plain hgd fun K hK' => ?_
  obtain ⟨v', w', hrun, r1, r2, r3⟩ := run_append_own (P := Tryz.prog) w base t o.type e i z size bytes ht hi hz0 hz1 hz2 hzs hsz v n xs hown ad m c news hl hnews h1 h63 hby2 hbase
  have hwhere : ∃ g c', v' = .slice (some ⟨g, 0, none⟩) (n + m) c' ∧ (some g = v.ownBlock ∨ g = w.heap.size) := by
    rcases hown.2 with ⟨rfl, rfl⟩ | ⟨g, cap, cur, rfl, hbg, hg, hnc, hcm, hcs, htake⟩
    · have hr := run_append_nil (P := Tryz.prog) w t o.type e i z ht hi hz0 ad m c news (by rw [hl, hz1]) hnews hm (by unfold maxLen at h63; omega)
        (by rw [hz2]; have : m * bytes ≤ (0 + m) * bytes := by rw [Nat.zero_add]; exact Nat.le_refl _
            omega)
      rw [hr] at hrun
      cases hrun
      exact ⟨_, _, by rw [Nat.zero_add], .inr rfl⟩
    · by_cases hroom : n + m ≤ cap
      · obtain ⟨w2, hr, _⟩ := run_append_fits (P := Tryz.prog) w base t o.type e i size ht hi hz1 g n cap xs hown ad m c news hl hnews h1 hroom
        rw [hr] at hrun
        cases hrun
        exact ⟨_, _, rfl, .inl rfl⟩
      · have holds : ∀ j u, xs[j]? = some u → w.cell? ((⟨g, 0, none⟩ : Addr).add j) = some u := hown.cells (g := g) rfl
        have hr := run_append_grow (P := Tryz.prog) w t o.type e i z ht hi hz0 ⟨g, 0, none⟩ n cap xs (by rw [hown.1, hz1]) holds ad m c news (by rw [hl, hz1]) hnews (by omega) (by unfold maxLen at h63; omega)
          (growslice_fits (by omega) (by rw [hz2]; exact hby2))
        rw [hr] at hrun
        cases hrun
        exact ⟨_, _, rfl, .inr rfl⟩
  unfold Oper.wp
  simp [execOp, ho, resolve, invoke, builtin, hs, hx, hrun, Result.andThen]
  exact hK' _ _ (h v' w' r1 r2 hwhere)

theorem wpl_app3 {w : World} {ops : Array Oper} {rest : List Oper} {o : Oper} {a : Act} {Q : Exit → Act → World → Prop} (hgd : o.guard = none) (s x : Operand) (t : TypeId)
    (ho : o.op = .call { callee := .builtin .append, args := #[s, x], argTypes := #[t, t] })
    (base : Nat) (e : TypeId) (z : Value) (size bytes : Nat) (ht : Tryz.prog.underlying t = some (.slice e))
    (hinfo : (Tryz.prog.info? e).map (fun i => (i.zero, i.size, i.bytes)) = some (some z, size, bytes)) (hzs : z.cells.size = size) (hsz : 0 < size) (hby : bytes ≤ 100)
    (v : Value) (n : Nat) (xs : List Value) (hs : a.eval s = v) (hown : w.ownsRow base e size v n xs)
    (sa : Option Addr) (m c : Nat) (news : List Value) (hx : a.eval x = .slice sa m c) (hl : news.length = m * size)
    (hnone : sa = none → m = 0 ∧ c = 0) (hnews : ∀ ad, sa = some ad → ∀ j u, news[j]? = some u → w.cell? (ad.add j) = some u) (h1 : ∀ u ∈ news, u.oneCell' = true)
    (hb : n + m ≤ 1000000) (hbase : base ≤ w.heap.size)
    (h : ∀ v' w', w'.ownsRow base e size v' (n + m) (xs ++ news) → w.grownBy w' v.ownBlock → (∀ b, v'.ownBlock = some b → v.ownBlock = some b ∨ b = w.heap.size) → wpList Tryz.prog ops Q rest (a.put o.dst v') w') :
    wpList Tryz.prog ops Q (o :: rest) a w := by
  by_cases hm : 0 < m
  · cases sa with
    | none => have := (hnone rfl).1; omega
    | some ad =>
      refine wpl_app2 hgd s x t ho base e z size bytes ht hinfo hzs hsz hby v n xs hs hown ad m c news hx hl (hnews ad rfl) h1 hm hb hbase ?_
      rintro v' w' r1 r2 ⟨g, c', rfl, hw⟩
      refine h _ w' r1 r2 ?_
      intro b hb
      simp [Value.ownBlock] at hb
      subst hb
      rcases hw with hw | hw
      · exact .inl hw.symm
      · exact .inr hw
  · have hm0 : m = 0 := by omega
    subst hm0
    have hn0 : news = [] := List.eq_nil_of_length_eq_zero (by simpa using hl)
    subst hn0
    obtain ⟨i, hi, hz0, hz1, hz2⟩ := info_parts hinfo
    refine wpList_plain hgd fun K hK' => ?_
    cases sa with
    | none =>
      obtain ⟨_, rfl⟩ := hnone rfl
      have hrun := run_append_owned_none (P := Tryz.prog) w base t o.type e i size ht hi v n xs hown
      unfold Oper.wp
      simp [execOp, ho, resolve, invoke, builtin, hs, hx, hrun, Result.andThen]
      exact hK' _ _ (h v w (by simpa using hown) (World.grownBy.refl _ _) (fun b hb => .inl hb))
    | some ad =>
      obtain ⟨v', w', hrun, r1, r2, r3⟩ := run_append_own (P := Tryz.prog) w base t o.type e i z size bytes ht hi hz0 hz1 hz2 hzs hsz v n xs hown ad 0 c [] hl (hnews ad rfl) h1
        (by unfold maxLen; omega) (by have : (n + 0) * bytes ≤ 1000000 * 100 := Nat.mul_le_mul hb hby; omega) hbase
      have hwhere : ∀ b, v'.ownBlock = some b → v.ownBlock = some b ∨ b = w.heap.size := by
        rcases hown.2 with ⟨rfl, rfl⟩ | ⟨g, cap, cur, rfl, hbg, hg, hnc, hcm, hcs, htake⟩
        · rw [r3.2 ⟨rfl, rfl⟩]; intro b hb; cases hb
        · obtain ⟨w2, hr, _⟩ := run_append_fits (P := Tryz.prog) w base t o.type e i size ht hi hz1 g n cap xs hown ad 0 c [] hl (hnews ad rfl) h1 (by omega)
          rw [hr] at hrun
          cases hrun
          exact fun b hb => .inl hb
      unfold Oper.wp
      simp [execOp, ho, resolve, invoke, builtin, hs, hx, hrun, Result.andThen]
      exact hK' _ _ (h v' w' r1 r2 hwhere)

/-- append(s, x...) of bytes, told with where the row lies -/
theorem wpl_app_bytes2 {w : World} {ops : Array Oper} {rest : List Oper} {o : Oper} {a : Act} {Q : Exit → Act → World → Prop} (hgd : o.guard = none) (s x : Operand)
    (ho : o.op = .call { callee := .builtin .append, args := #[s, x], argTypes := #[22, 22] })
    (base : Nat) (v : Value) (n : Nat) (l : Bs) (hs : a.eval s = v) (hown : w.ownsRow base 5 1 v n (l.map bv))
    (S : List Nat) (sv : Value) (m : Bs) (hx : a.eval x = sv) (hm : BS S w sv m)
    (hb : n + m.length ≤ 1000000) (hbase : base ≤ w.heap.size)
    (h : ∀ v' w', w'.ownsRow base 5 1 v' (n + m.length) ((l ++ m).map bv) → w.grownBy w' v.ownBlock → (∀ b, v'.ownBlock = some b → v.ownBlock = some b ∨ b = w.heap.size) → wpList Tryz.prog ops Q rest (a.put o.dst v') w') :
    wpList Tryz.prog ops Q (o :: rest) a w := by
  obtain ⟨a', c, rfl, hlc, hor⟩ := hm
  refine wpl_app3 hgd s x 22 ho base 5 (.int .u8 0) 1 1 (by kernel_rfl) info5 rfl (by decide) (by decide) v n (l.map bv) hs hown a' m.length c (m.map bv) hx (by simp) ?_ ?_ (bv_one m) hb hbase ?_
  · rintro rfl; rcases hor with ⟨_, rfl, rfl⟩ | ⟨b, o, h, _⟩
    · simp
    · cases h
  · rintro ad rfl j u hj
    rcases hor with ⟨h, _⟩ | ⟨b, o, h, _, hseg⟩
    · cases h
    · cases h
      have hjl : j < m.length := by
        rcases Nat.lt_or_ge j m.length with h | h
        · exact h
        · rw [List.getElem?_eq_none (by simpa using h)] at hj; cases hj
      rw [Addr.add_at, hseg.cell j hjl]
      simp [List.getElem?_eq_getElem hjl] at hj
      simp [List.getD, List.getElem?_eq_getElem hjl, ← hj]
  · intro v' w' h1 h2 h3
    exact h v' w' (by simpa using h1) h2 h3

theorem run_copy_row_k {P : Program} (w : World) (dT sT ty elem : TypeId) (k g o dLen dCap : Nat) (a : Addr) (sLen sCap : Nat) (cur : Array Value) (t : TypeId) (cs : List Value)
    (hu : P.underlying dT = some (.slice elem)) (hs : (P.info? elem).map (·.size) = some k)
    (hg : w.heap[g]? = some (.cells cur t (0, 0))) (hn : cs.length = Nat.min sLen dLen * k)
    (hsrc : ∀ j v, cs[j]? = some v → w.cell? (a.add j) = some v) (hfit : o + cs.length ≤ cur.size) (h1 : ∀ v ∈ cs, v.oneCell' = true) :
    (Builtin.copy_ #[dT, sT] ty #[.slice (some ⟨g, o, none⟩) dLen dCap, .slice (some a) sLen sCap]).run P w =
      .ok (goInt (Nat.min sLen dLen)) (w.setRow g (cur.toList.take o ++ cs ++ cur.toList.drop (o + cs.length)).toArray) := by
  have hl := run_loadCells_list (P := P) w a cs hsrc
  have hst := run_storeCells_at P g o t cs 0 cur w hg (by simpa using hfit) h1
  cases hq : P.info? elem with
  | none => simp [hq] at hs
  | some i =>
    have hi : i.size = k := by simpa [hq] using hs
    simp [Builtin.copy_, run_underlying hu, Builtin.lenOf, Builtin.firstCells, sizeOf, typeInfo, hq, hi, ← hn, hl, hst]

theorem Chg.setRow {S : List Nat} {a w : World} (h : Chg S a w) {g : Nat} (hg : g ∈ S ∨ a.heap.size ≤ g) (cs : Array Value) : Chg S a (w.setRow g cs) :=
  h.thn (S' := [g]) ⟨rfl, rfl, rfl, by simp, fun k _ hn => setRow_other w g k cs (by simpa using hn)⟩ (fun x hx => by simp at hx; subst hx; exact hg)
end Go.Proofs.YtekndndhgkdggaaGreatDoor

namespace Go.Proofs.YtekndndhgkdggaaGreatDoor
open Go.RowKit

abbrev sv (s : Bs) : Value := .string (bstr s)
/-- a field with the value that holds its values -/
abbrev GF := Bs × List Bs × Value
def cellsF (gs : List GF) : List Value := gs.flatMap fun g => [sv g.1, g.2.2]
def fsOf (gs : List GF) : Flds := gs.map fun g => (g.1, g.2.1)

theorem cellsF_len (gs : List GF) : (cellsF gs).length = gs.length * 2 := by
  induction gs with
  | nil => rfl
  | cons g r ih => simp only [cellsF, List.flatMap_cons, List.length_append] at *; rw [ih]; simp; omega
theorem cellsF_app (a b : List GF) : cellsF (a ++ b) = cellsF a ++ cellsF b := by simp [cellsF]
theorem cellsF_cons (g : GF) (b : List GF) : cellsF (g :: b) = sv g.1 :: g.2.2 :: cellsF b := by simp [cellsF]
theorem cellsF_at0 (A B : List GF) (g : GF) : (cellsF (A ++ g :: B))[A.length * 2]? = some (sv g.1) := by
  rw [cellsF_app, cellsF_cons, List.getElem?_append_right (by rw [cellsF_len]; omega), cellsF_len]; simp
theorem cellsF_at1 (A B : List GF) (g : GF) : (cellsF (A ++ g :: B))[A.length * 2 + 1]? = some g.2.2 := by
  rw [cellsF_app, cellsF_cons, List.getElem?_append_right (by rw [cellsF_len]; omega), cellsF_len]; simp
theorem cellsF_set1 (A B : List GF) (g : GF) (vs : List Bs) (u : Value) : (cellsF (A ++ g :: B)).set (A.length * 2 + 1) u = cellsF (A ++ (g.1, vs, u) :: B) := by
  rw [cellsF_app, cellsF_cons, cellsF_app, cellsF_cons, List.set_append_right _ _ (by rw [cellsF_len]; omega), cellsF_len]
  simp

structure OwnF (base : Nat) (w : World) (v : Value) (gs : List GF) : Prop where
  row : w.ownsRow base 61 2 v gs.length (cellsF gs)
  vals : ∀ g ∈ gs, w.ownsRow base 9 1 g.2.2 g.2.1.length (g.2.1.map sv) ∧ ∃ k, g.2.2.ownBlock = some k ∧ v.ownBlock ≠ some k
  apart : gs.Pairwise fun g h => g.2.2.ownBlock ≠ h.2.2.ownBlock

theorem below_of_chg {S : List Nat} {w w' : World} {B : Nat} (h : Chg S w w') (hB : B ≤ w.heap.size) (hS : ∀ x, x ∈ S → B ≤ x) : Below B w w' :=
  ⟨h.os, h.tape, h.output, h.size, fun k hk => h.block k (by omega) (fun hm => by have := hS k hm; omega)⟩

theorem OwnF.chg {base : Nat} {w w' : World} {v : Value} {gs : List GF} {S : List Nat} (h : OwnF base w v gs) (hc : Chg S w w') (h1 : ∀ k, v.ownBlock = some k → k ∉ S) (h2 : ∀ g ∈ gs, ∀ k, g.2.2.ownBlock = some k → k ∉ S) : OwnF base w' v gs :=
  ⟨own_chg h.row hc h1, fun g hg => ⟨own_chg (h.vals g hg).1 hc (h2 g hg), (h.vals g hg).2⟩, h.apart⟩

theorem putB_split (A R : Flds) (K V : Bs) (h : ∀ a ∈ A, ltB a.1 K = true) : putB (A ++ R) K V = A ++ putB R K V := by
  induction A with
  | nil => rfl
  | cons a A ih =>
    rw [List.cons_append, putB, if_pos (h a (by simp)), ih (fun b hb => h b (by simp [hb]))]; rfl

theorem bless_eq (a b : Bs) : Op.bytesLess a b = ltB a b := by
  induction a generalizing b with
  | nil => cases b <;> rfl
  | cons x a ih =>
    cases b with
    | nil => rfl
    | cons y b => simp only [Op.bytesLess, ltB, ih]

theorem sv_one (l : List Bs) : ∀ u ∈ l.map sv, u.oneCell' = true := by
  intro u hu; rw [List.mem_map] at hu; obtain ⟨x, _, rfl⟩ := hu; rfl

/-- the blocks that a list of fields owns -/
def blkF (v : Value) (gs : List GF) : List Nat := v.ownBlock.toList ++ gs.flatMap fun g => g.2.2.ownBlock.toList
theorem mem_blkF {v : Value} {gs : List GF} {x : Nat} : x ∈ blkF v gs ↔ v.ownBlock = some x ∨ ∃ g ∈ gs, g.2.2.ownBlock = some x := by
  unfold blkF
  rw [List.mem_append, List.mem_flatMap]
  simp only [Option.mem_toList]

/-- what put leaves -/
def PutPost (base : Nat) (w : World) (v : Value) (gs : List GF) (K V : Bs) (e : Ending) (w' : World) : Prop :=
  ∃ v' gs', e = .returned v' ∧ OwnF base w' v' gs' ∧ fsOf gs' = putB (fsOf gs) K V ∧ Below base w w' ∧ Chg (blkF v gs) w w' ∧ ∀ x, x ∈ blkF v' gs' → x ∈ blkF v gs ∨ w.heap.size ≤ x

theorem cell_str (w : World) (V : Bs) : ∀ j u, ([sv V] : List Value)[j]? = some u → (w.alloc (.cells #[sv V] 9)).cell? ((⟨w.heap.size, 0, none⟩ : Addr).add j) = some u := by
  intro j u hj
  match j, hj with
  | 0, hj => simp at hj; subst hj; simp [Addr.add]
  | j + 1, hj => simp at hj

theorem bless_eq' (a b : Bs) : Op.bytesLess a b = ltB a b := bless_eq a b

theorem Chg.of_grown {w w' : World} {row : Option Nat} (h : w.grownBy w' row) : Chg row.toList w w' :=
  ⟨h.os, h.tape, h.output, h.size, fun k hk hn => h.block k hk (fun e => hn (by rw [← e]; simp))⟩

theorem put_ins_fsOf (A R : List GF) (K V : Bs) (u : Value) (hA : ∀ a ∈ A, ltB a.1 K = true) (hR : ∀ g B, R = g :: B → ltB g.1 K = false ∧ g.1 ≠ K) :
    fsOf (A ++ (K, [V], u) :: R) = putB (fsOf (A ++ R)) K V := by
  have e : fsOf (A ++ R) = fsOf A ++ fsOf R := by simp [fsOf]
  rw [e, putB_split _ _ _ _ (by intro a ha; obtain ⟨g, hg, rfl⟩ := List.mem_map.1 ha; exact hA g hg)]
  cases R with
  | nil => simp [fsOf, putB]
  | cons g B =>
    obtain ⟨h1, h2⟩ := hR g B rfl
    simp [fsOf, putB, h1, h2]

theorem put_ins_fin {base : Nat} {w w1 w2 : World} {ag : Option Addr} {N c : Nat} {gs A R : List GF} (K V : Bs) (H : OwnF base w (.slice ag N c) gs) (hgs : gs = A ++ R) (hN : gs.length = N) (hbase : base ≤ w.heap.size)
    (o : Obj) {g1 c1 : Nat} {x y : Value} (hown1 : w1.ownsRow base 61 2 (.slice (some ⟨g1, 0, none⟩) (N + 1) c1) (N + 1) (cellsF gs ++ [x, y]))
    (hgrow1 : (w.alloc o).grownBy w1 (Value.slice ag N c).ownBlock) (hw : some g1 = (Value.slice ag N c).ownBlock ∨ g1 = (w.alloc o).heap.size)
    (hch2 : Chg [g1] w1 w2) (cur2 : Array Value) (hb2 : Blk w2 g1 cur2 61) (hs2 : cur2.size = c1 * 2) (X Y : Value) (htake2 : cur2.toList.take ((N + 1) * 2) = cellsF A ++ X :: Y :: cellsF R)
    (hA : ∀ a ∈ A, ltB a.1 K = true) (hR : ∀ g B, R = g :: B → ltB g.1 K = false ∧ g.1 ≠ K) :
    PutPost base w (.slice ag N c) gs K V (.returned (.slice (some ⟨g1, 0, none⟩) (N + 1) c1))
      (((w2.setCell ⟨g1, A.length * 2, none⟩ (sv K)).setCell ⟨g1, A.length * 2 + 1, none⟩ (.slice (some ⟨w2.heap.size, 0, none⟩) 1 1)).alloc (.cells #[sv V] 9)) := by
  obtain ⟨hbg1, hg1lt⟩ := hown1.lt g1 rfl
  have hsz1 := hgrow1.size
  have hszw : (w.alloc o).heap.size = w.heap.size + 1 := by simp
  have hNl : A.length + R.length = N := by rw [← hN, hgs]; simp
  have hcap : N + 1 ≤ c1 ∧ c1 ≤ maxLen := by
    rcases hown1.2 with ⟨h, _⟩ | ⟨g, cap, cur, h, _, _, h1, h2, _⟩
    · cases h
    · cases h; exact ⟨h1, h2⟩
  -- what has turned since w
  have c01 : Chg (g1 :: (Value.slice ag N c).ownBlock.toList) w w1 := ((Chg.refl _ w).alloc o).thn (Chg.of_grown hgrow1) (fun k hk => .inl (by simp [hk]))
  have c02 : Chg (g1 :: (Value.slice ag N c).ownBlock.toList) w w2 := c01.thn hch2 (fun k hk => .inl (by simp at hk; simp [hk]))
  have c03 : Chg (g1 :: (Value.slice ag N c).ownBlock.toList) w (((w2.setCell ⟨g1, A.length * 2, none⟩ (sv K)).setCell ⟨g1, A.length * 2 + 1, none⟩ (.slice (some ⟨w2.heap.size, 0, none⟩) 1 1)).alloc (.cells #[sv V] 9)) :=
    ((c02.setCell (.inl (by simp)) _).setCell (.inl (by simp)) _).alloc _
  have hsz2 := hch2.size
  have hold : ∀ g ∈ gs, ∀ k, g.2.2.ownBlock = some k → k ∉ (g1 :: (Value.slice ag N c).ownBlock.toList) ∧ k < w.heap.size := by
    intro g hg k hk
    obtain ⟨h1, k', hk', hne⟩ := H.vals g hg
    have hkl := (h1.lt k hk).2
    rw [hk] at hk'; cases hk'
    refine ⟨?_, hkl⟩
    intro hm
    rw [List.mem_cons] at hm
    rcases hm with rfl | hm
    · rcases hw with hw | hw
      · exact hne hw.symm
      · omega
    · exact hne (by cases hq : (Value.slice ag N c).ownBlock <;> simp_all)
  have hrowblk : ∀ b, (Value.slice ag N c).ownBlock = some b → base ≤ b := fun b hb => (H.row.lt b hb).1
  have hnewblk : Blk (((w2.setCell ⟨g1, A.length * 2, none⟩ (sv K)).setCell ⟨g1, A.length * 2 + 1, none⟩ (.slice (some ⟨w2.heap.size, 0, none⟩) 1 1)).alloc (.cells #[sv V] 9)) w2.heap.size #[sv V] 9 := Blk.at_ _ (by simp [World.setCell]) _ _
  have hrow3 := ((hb2.set (A.length * 2) (sv K)).set (A.length * 2 + 1) (.slice (some ⟨w2.heap.size, 0, none⟩) 1 1)).alloc (.cells #[sv V] 9)
  refine ⟨_, A ++ (K, [V], .slice (some ⟨w2.heap.size, 0, none⟩) 1 1) :: R, rfl, ⟨?_, ?_, ?_⟩, ?_, ?_, ?_, ?_⟩
  · have hlen : (A ++ (K, [V], (.slice (some ⟨w2.heap.size, 0, none⟩) 1 1 : Value)) :: R).length = N + 1 := by simp; omega
    rw [hlen]
    refine ⟨by rw [cellsF_len, hlen], .inr ⟨g1, c1, _, rfl, hbg1, hrow3, hcap.1, hcap.2, by simp [hs2], ?_⟩⟩
    simp only [Array.toList_setIfInBounds]
    rw [List.take_set, List.take_set, htake2, cellsF_app, cellsF_cons,
      List.set_append_right _ _ (by rw [cellsF_len]; omega), cellsF_len, List.set_append_right _ _ (by rw [cellsF_len]; omega), cellsF_len]
    simp
  · intro g hg
    rw [List.mem_append, List.mem_cons] at hg
    have old : g ∈ gs → _ := fun hg => (⟨own_chg (H.vals g hg).1 c03 (fun k hk => (hold g hg k hk).1), by
      obtain ⟨_, k, hk, _⟩ := H.vals g hg
      exact ⟨k, hk, by intro e; simp [Value.ownBlock] at e; exact (hold g hg k hk).1 (by simp [e])⟩⟩ :
      World.ownsRow _ base 9 1 g.2.2 g.2.1.length (g.2.1.map sv) ∧ ∃ k, g.2.2.ownBlock = some k ∧ (Value.slice (some ⟨g1, 0, none⟩) (N + 1) c1).ownBlock ≠ some k)
    rcases hg with hg | rfl | hg
    · exact old (by rw [hgs]; simp [hg])
    · refine ⟨⟨rfl, .inr ⟨w2.heap.size, 1, #[sv V], rfl, by omega, hnewblk, Nat.le_refl _, by unfold maxLen; omega, rfl, rfl⟩⟩, w2.heap.size, rfl, ?_⟩
      simp [Value.ownBlock]; omega
    · exact old (by rw [hgs]; simp [hg])
  · have hp := H.apart
    rw [hgs] at hp
    rw [List.pairwise_append, List.pairwise_cons]
    rw [List.pairwise_append] at hp
    refine ⟨hp.1, ⟨?_, hp.2.1⟩, ?_⟩
    · intro g hg e
      obtain ⟨_, k, hk, _⟩ := H.vals g (by rw [hgs]; simp [hg])
      rw [hk] at e
      have := (hold g (by rw [hgs]; simp [hg]) k hk).2
      simp [Value.ownBlock] at e; omega
    · intro a ha b hb
      rw [List.mem_cons] at hb
      rcases hb with rfl | hb
      · intro e
        obtain ⟨_, k, hk, _⟩ := H.vals a (by rw [hgs]; simp [ha])
        rw [hk] at e
        have := (hold a (by rw [hgs]; simp [ha]) k hk).2
        simp [Value.ownBlock] at e; omega
      · exact hp.2.2 a ha b hb
  · rw [hgs]; exact put_ins_fsOf A R K V _ hA hR
  · refine below_of_chg c03 hbase ?_
    intro k hk
    rw [List.mem_cons] at hk
    rcases hk with rfl | hk
    · exact hbg1
    · exact hrowblk k (by cases hq : (Value.slice ag N c).ownBlock <;> simp_all)
  · refine c03.less ?_
    intro x hx
    rw [List.mem_cons] at hx
    rcases hx with rfl | hx
    · rcases hw with hw | hw
      · exact .inl (mem_blkF.2 (.inl hw.symm))
      · exact .inr (by omega)
    · exact .inl (mem_blkF.2 (.inl (by cases hq : (Value.slice ag N c).ownBlock <;> simp_all)))
  · intro x hx
    rw [mem_blkF] at hx
    rcases hx with hx | ⟨g, hg, hx⟩
    · simp [Value.ownBlock] at hx
      subst hx
      rcases hw with hw | hw
      · exact .inl (mem_blkF.2 (.inl hw.symm))
      · exact .inr (by omega)
    · rw [List.mem_append, List.mem_cons] at hg
      rcases hg with hg | rfl | hg
      · exact .inl (mem_blkF.2 (.inr ⟨g, by rw [hgs]; simp [hg], hx⟩))
      · simp [Value.ownBlock] at hx; exact .inr (by omega)
      · exact .inl (mem_blkF.2 (.inr ⟨g, by rw [hgs]; simp [hg], hx⟩))

theorem put_upd_fin {base : Nat} {w w1 : World} {N c g0 g1 c1 : Nat} {gs A B : List GF} {g : GF} (K V : Bs) (H : OwnF base w (.slice (some ⟨g0, 0, none⟩) N c) gs) (hgs : gs = A ++ g :: B) (hN : gs.length = N) (hbase : base ≤ w.heap.size)
    (o : Obj) (hown1 : w1.ownsRow base 9 1 (.slice (some ⟨g1, 0, none⟩) (g.2.1.length + 1) c1) (g.2.1.length + 1) (g.2.1.map sv ++ [sv V]))
    (hgrow1 : (w.alloc o).grownBy w1 g.2.2.ownBlock) (hw : some g1 = g.2.2.ownBlock ∨ g1 = (w.alloc o).heap.size)
    (hA : ∀ a ∈ A, ltB a.1 K = true) (hlt : ltB g.1 K = false) (hk : g.1 = K) :
    PutPost base w (.slice (some ⟨g0, 0, none⟩) N c) gs K V (.returned (.slice (some ⟨g0, 0, none⟩) N c)) (w1.setCell ⟨g0, A.length * 2 + 1, none⟩ (.slice (some ⟨g1, 0, none⟩) (g.2.1.length + 1) c1)) := by
  have hg : g ∈ gs := by rw [hgs]; simp
  obtain ⟨hvg, kb, hkb, hne0⟩ := H.vals g hg
  rw [hkb] at hw hgrow1
  have hg0 : base ≤ g0 ∧ g0 < w.heap.size := H.row.lt g0 rfl
  have hne : g0 ≠ kb := by intro e; apply hne0; simp [Value.ownBlock, e]
  have hszw : (w.alloc o).heap.size = w.heap.size + 1 := by simp
  have hg1 : g1 ≠ g0 := by
    rcases hw with h | h
    · cases h; exact hne.symm
    · omega
  have hkl : kb < w.heap.size := (hvg.lt kb hkb).2
  have c01 : Chg [kb] w w1 := ((Chg.refl [kb] w).alloc o).thn (Chg.of_grown hgrow1) (fun k hk => .inl (by simpa using hk))
  have c02 : Chg [g0, kb] w (w1.setCell ⟨g0, A.length * 2 + 1, none⟩ (.slice (some ⟨g1, 0, none⟩) (g.2.1.length + 1) c1)) := (c01.mono (by simp)).setCell (.inl (by simp)) _
  have hblk : ∀ h ∈ gs, ∀ k, h.2.2.ownBlock = some k → k ≠ g0 ∧ k < w.heap.size := by
    intro h hh k hk
    obtain ⟨h1, k', hk', hn⟩ := H.vals h hh
    rw [hk] at hk'; cases hk'
    exact ⟨by intro e; apply hn; simp [Value.ownBlock, e], (h1.lt k hk).2⟩
  have hp := H.apart
  rw [hgs, List.pairwise_append, List.pairwise_cons] at hp
  have hoth : ∀ h, h ∈ A ∨ h ∈ B → ∀ k, h.2.2.ownBlock = some k → k ≠ kb := by
    intro h hh k hk e
    subst e
    rcases hh with hh | hh
    · exact hp.2.2 h hh g (by simp) (by rw [hk, hkb])
    · exact hp.2.1.1 h hh (by rw [hk, hkb])
  have hnew : ∀ h, h ∈ A ∨ h ∈ B → ∀ k, h.2.2.ownBlock = some k → k ≠ g1 := by
    intro h hh k hk
    have hm : h ∈ gs := by rw [hgs]; rcases hh with hh | hh <;> simp [hh]
    rcases hw with hw | hw
    · cases hw; exact hoth h hh k hk
    · have := (hblk h hm k hk).2; omega
  have hrow1 := own_chg H.row c01 (fun k hk => by simp [Value.ownBlock] at hk; subst hk; simpa using hne)
  rw [hN] at hrow1
  refine ⟨_, A ++ (g.1, g.2.1 ++ [V], .slice (some ⟨g1, 0, none⟩) (g.2.1.length + 1) c1) :: B, rfl, ⟨?_, ?_, ?_⟩, ?_, ?_, ?_, ?_⟩
  · have hlen : (A ++ (g.1, g.2.1 ++ [V], (.slice (some ⟨g1, 0, none⟩) (g.2.1.length + 1) c1 : Value)) :: B).length = N := by rw [← hN, hgs]; simp
    rw [hlen, ← cellsF_set1 A B g, ← hgs]
    exact (hrow1.stored _ _).1
  · intro h hh
    rw [List.mem_append, List.mem_cons] at hh
    have old : h ∈ A ∨ h ∈ B → World.ownsRow (w1.setCell ⟨g0, A.length * 2 + 1, none⟩ (.slice (some ⟨g1, 0, none⟩) (g.2.1.length + 1) c1)) base 9 1 h.2.2 h.2.1.length (h.2.1.map sv) ∧ ∃ k, h.2.2.ownBlock = some k ∧ (Value.slice (some ⟨g0, 0, none⟩) N c).ownBlock ≠ some k := fun hh => by
      have hm : h ∈ gs := by rw [hgs]; rcases hh with hh | hh <;> simp [hh]
      obtain ⟨h1, k, hk, hn⟩ := H.vals h hm
      exact ⟨own_chg h1 c02 (fun k' hk' => by simp; exact ⟨(hblk h hm k' hk').1, hoth h hh k' hk'⟩), k, hk, hn⟩
    rcases hh with hh | rfl | hh
    · exact old (.inl hh)
    · refine ⟨?_, g1, rfl, by simp [Value.ownBlock]; exact hg1.symm⟩
      simp only [List.length_append, List.length_cons, List.length_nil, Nat.zero_add, List.map_append, List.map_cons, List.map_nil]
      exact own_chg hown1 ((Chg.refl [g0] w1).setCell (.inl (by simp)) _) (fun k hk => by simp [Value.ownBlock] at hk; subst hk; simpa using hg1)
    · exact old (.inr hh)
  · rw [List.pairwise_append, List.pairwise_cons]
    refine ⟨hp.1, ⟨?_, hp.2.1.2⟩, ?_⟩
    · intro h hh e
      exact hnew h (.inr hh) g1 (Eq.symm e) rfl
    · intro a ha b hb
      rw [List.mem_cons] at hb
      rcases hb with rfl | hb
      · intro e
        exact hnew a (.inl ha) g1 e rfl
      · exact hp.2.2 a ha b (by simp [hb])
  · have e : fsOf gs = fsOf A ++ (g.1, g.2.1) :: fsOf B := by rw [hgs]; simp [fsOf]
    rw [e, putB_split _ _ _ _ (by intro a ha; obtain ⟨x, hx, rfl⟩ := List.mem_map.1 ha; exact hA x hx)]
    subst hk
    simp [fsOf, putB, hlt]
  · refine below_of_chg c02 hbase ?_
    intro k hk
    simp at hk
    rcases hk with rfl | rfl
    · exact hg0.1
    · exact (hvg.lt k hkb).1
  · refine c02.less ?_
    intro x hx
    simp at hx
    rcases hx with rfl | rfl
    · exact .inl (mem_blkF.2 (.inl rfl))
    · exact .inl (mem_blkF.2 (.inr ⟨g, hg, hkb⟩))
  · intro x hx
    rw [mem_blkF] at hx
    rcases hx with hx | ⟨h, hh, hx⟩
    · exact .inl (mem_blkF.2 (.inl hx))
    · rw [List.mem_append, List.mem_cons] at hh
      rcases hh with hh | rfl | hh
      · exact .inl (mem_blkF.2 (.inr ⟨h, by rw [hgs]; simp [hh], hx⟩))
      · simp [Value.ownBlock] at hx
        subst hx
        rcases hw with hw | hw
        · exact .inl (mem_blkF.2 (.inr ⟨g, hg, by rw [hkb]; exact hw.symm⟩))
        · exact .inr (by omega)
      · exact .inl (mem_blkF.2 (.inr ⟨h, by rw [hgs]; simp [hh], hx⟩))

/-- The address behind 's[l:..]', elements of k cells. -/
def subK (a : Option Addr) (m l k : Nat) : Option Addr := if m = l then a else a.map (·.add (l * k))
theorem subK_some (g m l k : Nat) (h : l < m) : subK (some ⟨g, 0, none⟩) m l k = some ⟨g, l * k, none⟩ := by
  unfold subK; rw [if_neg (by omega)]
  simp [Addr.add_at]

theorem slice39_l (a : Option Addr) (n c : Nat) (k : IntKind) (l : Int) (h0 : 0 ≤ l) (h1 : l ≤ n) (w : World) :
    (Instr.slice 39 (.slice a n c) (some (.int k l)) none none).run Tryz.prog w = .ok (.slice (subK a c l.toNat 2) (n - l.toNat) (c - l.toNat)) w := by
  have := run_slice_l (P := Tryz.prog) w 39 a n c (by kernel_rfl) k l h0 h1
  rw [this]
  have hz : (sizeOf (Tryz.prog.elem 39)).run Tryz.prog w = .ok 2 w := by kernel_rfl
  rw [hz]; simp [Result.andThen, sliced, subK]

theorem run_copy_zero {P : Program} (w : World) (dT sT ty elem : TypeId) (d a : Option Addr) (dLen dCap sLen sCap : Nat) (hu : P.underlying dT = some (.slice elem)) (hs : ((P.info? elem).map (·.size)).isSome = true) (hn : Nat.min sLen dLen = 0) :
    (Builtin.copy_ #[dT, sT] ty #[.slice d dLen dCap, .slice a sLen sCap]).run P w = .ok (goInt 0) w := by
  cases hq : P.info? elem with
  | none => simp [hq] at hs
  | some i =>
    cases d <;> cases a <;> simp [Builtin.copy_, run_underlying hu, Builtin.lenOf, Builtin.firstCells, sizeOf, typeInfo, hq, hn, loadCells, loadCellsFrom, storeCells]

theorem own_blk {w : World} {base : Nat} {e : TypeId} {size g n c : Nat} {xs : List Value} (h : w.ownsRow base e size (.slice (some ⟨g, 0, none⟩) n c) n xs) :
    ∃ cur, Blk w g cur e ∧ cur.size = c * size ∧ n ≤ c ∧ c ≤ maxLen ∧ cur.toList.take (n * size) = xs := by
  rcases h.2 with ⟨h, _⟩ | ⟨g', cap, cur, h, _, hh, h1, h2, h3, h4⟩
  · cases h
  · cases h; exact ⟨cur, hh, h3, h1, h2, h4⟩
theorem cells_one {base : Nat} {w : World} {v : Value} {gs : List GF} (h : OwnF base w v gs) {cur : Array Value} {M : Nat} (ht : cur.toList.take M = cellsF gs ++ [sv [], .slice none 0 0]) (k N : Nat) (hM : N * 2 ≤ M := by omega) :
    ∀ u ∈ (cur.toList.drop (k * 2)).take ((N - k) * 2), u.oneCell' = true := by
  intro u hu
  have hm : u ∈ cur.toList.take M := by
    rw [List.mem_take_iff_getElem] at hu ⊢
    obtain ⟨j, hj, rfl⟩ := hu
    simp only [List.length_drop] at hj
    exact ⟨k * 2 + j, by omega, by simp⟩
  rw [ht, List.mem_append] at hm
  rcases hm with hm | hm
  · simp only [cellsF, List.mem_flatMap] at hm
    obtain ⟨g, hg, hm⟩ := hm
    simp at hm
    rcases hm with rfl | rfl
    · rfl
    · obtain ⟨_, k', hk', _⟩ := h.vals g hg
      cases hq : g.2.2 <;> rw [hq] at hk' <;> first | rfl | cases hk'
  · simp at hm; rcases hm with rfl | rfl <;> rfl
theorem ins_take {L : List Value} {A R : List GF} {N : Nat} {x y : Value} (hN : N = A.length + R.length) (h : L.take ((N + 1) * 2) = cellsF (A ++ R) ++ [x, y]) :
    ∃ X Y, L.take ((A.length + 1) * 2) ++ (L.drop (A.length * 2)).take ((N - A.length) * 2) = cellsF A ++ X :: Y :: cellsF R := by
  have e1 : L.take ((A.length + 1) * 2) = (L.take ((N + 1) * 2)).take ((A.length + 1) * 2) := by rw [List.take_take]; congr 1; omega
  have e2 : (L.drop (A.length * 2)).take ((N - A.length) * 2) = ((L.take ((N + 1) * 2)).take (N * 2)).drop (A.length * 2) := by
    rw [List.take_take, Nat.min_eq_left (by omega), List.drop_take]; congr 1; omega
  have l1 : (cellsF A).length = A.length * 2 := cellsF_len A
  have l2 : (cellsF R).length = R.length * 2 := cellsF_len R
  have e3 : (cellsF R ++ [x, y]).take 2 = [(cellsF R ++ [x, y]).getD 0 x, (cellsF R ++ [x, y]).getD 1 x] := by
    cases R with
    | nil => simp [cellsF]
    | cons g R => simp [cellsF]
  refine ⟨(cellsF R ++ [x, y]).getD 0 x, (cellsF R ++ [x, y]).getD 1 x, ?_⟩
  rw [e1, e2, h, cellsF_app, List.append_assoc]
  have e4 : (cellsF A ++ (cellsF R ++ [x, y])).take ((A.length + 1) * 2) = cellsF A ++ (cellsF R ++ [x, y]).take 2 := by
    rw [show (A.length + 1) * 2 = (cellsF A).length + 2 from by omega, List.take_length_add_append]
  have e5 : ((cellsF A ++ (cellsF R ++ [x, y])).take (N * 2)).drop (A.length * 2) = cellsF R := by
    rw [← List.append_assoc, List.take_append_of_le_length (by simp; omega), List.take_of_length_le (by simp; omega), ← l1, List.drop_left]
  rw [e4, e5, e3]; simp

theorem row_kept {w w1 : World} {o : Obj} {row : Option Nat} {g0 kb j : Nat} {x : Value} (h : (w.alloc o).grownBy w1 row) (hr : row = some kb) (hl : g0 < w.heap.size) (hne : g0 ≠ kb) (hc : w.cell? ⟨g0, j, none⟩ = some x) (hf : w.frozen? ⟨g0, j, none⟩ = false) :
    w1.cell? ⟨g0, j, none⟩ = some x ∧ w1.frozen? ⟨g0, j, none⟩ = false := by
  have hb : w1.heap[g0]? = w.heap[g0]? := by
    rw [h.block g0 (by simp; omega) (by rw [hr]; simp; exact hne), Below.heap_alloc _ _ _ hl]
  exact ⟨by rw [World.cell?_of_block (w := w) (a := ⟨g0, j, none⟩) hb]; exact hc, by rw [World.frozen?_of_block (w := w) (a := ⟨g0, j, none⟩) hb]; exact hf⟩

theorem two_one (a b : Value) (ha : a.oneCell' = true) (hb : b.oneCell' = true) : ∀ u ∈ [a, b], u.oneCell' = true := by
  intro u hu; simp at hu; rcases hu with rfl | rfl <;> assumption

theorem copy_fields (W : World) (g1 c1 N k : Nat) (cur : Array Value) (hb : Blk W g1 cur 61) (hsz : cur.size = c1 * 2) (hN : N + 1 ≤ c1) (hk : k ≤ N) (h1 : ∀ u ∈ (cur.toList.drop (k * 2)).take ((N - k) * 2), u.oneCell' = true) (ty : TypeId) :
    ∃ z w2 cur2, (Builtin.copy_ #[39, 39] ty #[.slice (subK (some ⟨g1, 0, none⟩) c1 (k + 1) 2) (N - k) (c1 - (k + 1)), .slice (subK (some ⟨g1, 0, none⟩) c1 k 2) (N + 1 - k) (c1 - k)]).run Tryz.prog W = .ok z w2 ∧
      Chg [g1] W w2 ∧ Blk w2 g1 cur2 61 ∧ cur2.size = c1 * 2 ∧ cur2.toList.take ((N + 1) * 2) = cur.toList.take ((k + 1) * 2) ++ (cur.toList.drop (k * 2)).take ((N - k) * 2) := by
  have hl : cur.toList.length = c1 * 2 := by simpa using hsz
  by_cases he : k = N
  · subst he
    refine ⟨_, _, cur, run_copy_zero W 39 39 ty 61 _ _ _ _ _ _ (by kernel_rfl) (by kernel_rfl) (by simp), Chg.refl _ _, hb, hsz, by simp⟩
  · rw [subK_some g1 c1 (k + 1) 2 (by omega), subK_some g1 c1 k 2 (by omega)]
    have hcs : ((cur.toList.drop (k * 2)).take ((N - k) * 2)).length = (N - k) * 2 := by simp [hl]; omega
    have hrun := run_copy_row_k (P := Tryz.prog) W 39 39 ty 61 2 g1 ((k + 1) * 2) (N - k) (c1 - (k + 1)) ⟨g1, k * 2, none⟩ (N + 1 - k) (c1 - k) cur 61 ((cur.toList.drop (k * 2)).take ((N - k) * 2)) (by kernel_rfl) (by kernel_rfl) hb
      (by rw [hcs]; congr 1; show _ = min (N + 1 - k) (N - k); omega)
      (fun j v hj => by
        have hjl : j < (N - k) * 2 := by
          rcases Nat.lt_or_ge j ((N - k) * 2) with h | h
          · exact h
          · rw [List.getElem?_eq_none (by omega)] at hj; cases hj
        rw [List.getElem?_take_of_lt hjl, List.getElem?_drop, Array.getElem?_toList] at hj
        rw [Addr.add_at, hb.cell]; exact hj)
      (by rw [hcs, hsz]; omega) h1
    refine ⟨_, _, _, hrun, (Chg.refl _ _).setRow (by simp) _, setRow_heap W g1 cur _ 61 _ hb, ?_, ?_⟩
    · simp [hl]; omega
    · rw [List.toList_toArray, List.take_append_of_le_length (by simp [hl]; omega), List.take_of_length_le (by simp [hl]; omega)]

set_option maxRecDepth 100000 in
set_option maxHeartbeats 1000000 in
theorem put_any {base : Nat} {w : World} {v : Value} {gs : List GF} (K V : Bs) (h : OwnF base w v gs) (hbase : base ≤ w.heap.size) (hn : gs.length ≤ 100000) (hv : ∀ g ∈ gs, g.2.1.length ≤ 100000) :
    Calls Tryz.prog 31 #[v, .string (bstr K), .string (bstr V)] w (PutPost base w v gs K V) := by
  obtain ⟨ag, c, N, rfl, hN, hlc⟩ : ∃ ag c N, v = .slice ag N c ∧ gs.length = N ∧ N ≤ c := by
    rcases h.row.2 with ⟨rfl, h0⟩ | ⟨g, cap, cur, rfl, _, _, hnc, _⟩
    · exact ⟨none, 0, 0, rfl, h0, by omega⟩
    · exact ⟨_, _, _, rfl, rfl, hnc⟩
  have hNb : N ≤ 100000 := by omega
  have hrow : w.ownsRow base 61 2 (.slice ag N c) N (cellsF gs) := by have := h.row; rw [hN] at this; exact this
  have H := Lib.hid h; clear h hn
  have HROW := Lib.hid hrow; clear hrow
  have HN := Lib.hid hN; clear hN
  have HV := Lib.hid hv; clear hv
  go_enter Tryz.func31, Tryz.ntmps31
  go_wp2
  go_loop [7] (fun i => ∃ A R, Hid (gs = A ++ R) ∧ i = .int .i64 (A.length : Int) ∧ Hid (∀ a ∈ A, ltB a.1 K = true)) (fun i => N - (intOf i).toNat)
  case atStart => exact ⟨[], gs, rfl, rfl, by unfold Hid; simp⟩
  case round =>
    obtain ⟨A, R, hgs, rfl, HA⟩ := hrel
    cases R with
    | nil =>
      have hge : N ≤ A.length ∧ A.length ≤ N := by have := HN.out; rw [hgs.out] at this; simp at this; omega
      obtain ⟨hge, hge2⟩ := hge
      go_wp2_with (at_builtin; refine wpl_app2 rfl (.tmp 49) (.tmp 51) 39 rfl base 61 (.agg #[.string ByteArray.empty, .slice none 0 0]) 2 40 (by kernel_rfl) info61 rfl (by decide) (by decide) (.slice ag N c) N (cellsF gs) rfl (HROW.out.alloc _) ⟨w.heap.size, 0, none⟩ 1 1 [.string (bstr []), .slice none 0 0] rfl rfl (cell_two_new w _ _ 61) (two_one _ _ rfl rfl) (by decide) (by omega) (by simp; omega) ?_; intro v1 w1 hown1 hgrow1 hwh; obtain ⟨g1, c1, rfl, hw1⟩ := hwh; obtain ⟨cur, hb1, hs1, hNc, hcm, ht1⟩ := own_blk hown1; have hk1 := Lib.hid (And.intro hown1 (And.intro hgrow1 (And.intro hw1 (And.intro hb1 ht1)))); clear hown1 hgrow1 hw1 hb1 ht1)
      have hAN : A.length ≤ N := by omega
      have hone := cells_one H.out hk1.out.2.2.2.2 A.length N
      obtain ⟨z, w2, cur2, hcopy, hch2, hb2, hs2, ht2⟩ := copy_fields w1.drew g1 c1 N A.length cur hk1.out.2.2.2.1 hs1 hNc hAN hone 3
      obtain ⟨V56, hV56⟩ : ∃ V, V = Value.slice (subK (some ⟨g1, 0, none⟩) c1 (A.length + 1) 2) (N - A.length) (c1 - (A.length + 1)) := ⟨_, rfl⟩
      obtain ⟨V59, hV59⟩ : ∃ V, V = Value.slice (subK (some ⟨g1, 0, none⟩) c1 A.length 2) (N + 1 - A.length) (c1 - A.length) := ⟨_, rfl⟩
      rw [← hV56, ← hV59] at hcopy
      have s56 : ∀ wy : World, (Instr.slice 39 (.slice (some ⟨g1, 0, none⟩) (N + 1) c1) (some (.int .i64 ((A.length : Int) + 1))) none none).run Tryz.prog wy = .ok V56 wy := fun wy => by
        rw [slice39_l _ _ _ _ _ (by omega) (by omega) wy, hV56, show ((A.length : Int) + 1).toNat = A.length + 1 from by omega, show N + 1 - (A.length + 1) = N - A.length from by omega]
      have s59 : ∀ wy : World, (Instr.slice 39 (.slice (some ⟨g1, 0, none⟩) (N + 1) c1) (some (.int .i64 (A.length : Int))) none none).run Tryz.prog wy = .ok V59 wy := fun wy => by
        rw [slice39_l _ _ _ _ _ (by omega) (by omega) wy, hV59, Int.toNat_natCast]
      clear hV56 hV59 hone
      have hcap2 : A.length * 2 + 1 < cur2.size := by omega
      have h20 : w2.cell? ⟨g1, A.length * 2, none⟩ = some (cur2[A.length * 2]'(by omega)) := by rw [hb2.cell]; exact Array.getElem?_eq_getElem _
      have h21 : w2.cell? ⟨g1, A.length * 2 + 1, none⟩ = some (cur2[A.length * 2 + 1]'(by omega)) := by rw [hb2.cell]; exact Array.getElem?_eq_getElem _
      generalize cur2[A.length * 2]'(by omega) = o20 at h20
      generalize cur2[A.length * 2 + 1]'(by omega) = o21 at h21
      have f20 := hb2.free (A.length * 2)
      have f21 := hb2.free (A.length * 2 + 1)
      have hlt2 := hb2.lt
      have hk2 := Lib.hid (And.intro hch2 (And.intro hb2 (And.intro hs2 ht2))); clear hch2 hb2 hs2 ht2 hcap2
      have hwr : IntKind.i64.wrap ((A.length : Int) + 1) = (A.length : Int) + 1 := IntWalk.i64_in _ (by omega)
      go_still_tail 7, (by kernel_rfl)
      change wpList _ _ _ _ _ w1.drew
      clear hwr
      go_wp2
      go_ret
      obtain ⟨X, Y, hXY⟩ := ins_take (A := A) (R := []) (N := N) (by have := HN.out; rw [hgs.out] at this; simpa using this.symm) (by rw [← hgs.out]; exact hk1.out.2.2.2.2)
      exact put_ins_fin K V H.out hgs.out HN.out hbase _ hk1.out.1 hk1.out.2.1 hk1.out.2.2.1 (((Chg.refl _ _).drew).trans hk2.out.1) cur2 hk2.out.2.1 hk2.out.2.2.1 X Y (hk2.out.2.2.2.trans hXY) HA.out (fun g B h => by cases h)
    | cons g B =>
      have hlt0 : A.length < N := by have := HN.out; rw [hgs.out] at this; simp at this; omega
      obtain ⟨g0, rfl⟩ : ∃ g0, ag = some ⟨g0, 0, none⟩ := by
        rcases HROW.out.2 with ⟨h1, _⟩ | ⟨g', cap, cur, h1, _⟩
        · simp at h1; omega
        · simp at h1; exact ⟨_, h1.1⟩
      have c0 : w.cell? ⟨g0, A.length * 2, none⟩ = some (sv g.1) := (HROW.out.cellAt (A.length * 2) (by omega)).trans (by rw [hgs.out]; exact cellsF_at0 A B g)
      have c1 : w.cell? ⟨g0, A.length * 2 + 1, none⟩ = some g.2.2 := (HROW.out.cellAt (A.length * 2 + 1) (by omega)).trans (by rw [hgs.out]; exact cellsF_at1 A B g)
      have f1 := HROW.out.frozenAt (A.length * 2 + 1)
      have hbl := bless_eq g.1 K
      cases hlt : ltB g.1 K with
      | true =>
        rw [hlt] at hbl
        have HLT := Lib.hid hlt; clear hlt
        go_wp2
        go_round
        case rel =>
          refine ⟨A ++ [g], B, by unfold Hid; rw [hgs.out]; simp, by simp, ?_⟩
          intro a ha
          rw [List.mem_append] at ha
          rcases ha with ha | ha
          · exact HA.out a ha
          · simp at ha; subst ha; exact HLT.out
        case measure => simp [intOf]; omega
      | false =>
        rw [hlt] at hbl
        have HLT := Lib.hid hlt; clear hlt
        by_cases hk : g.1 = K
        · have hk' : (g.1 == K) = true := by rw [beq_iff_eq]; exact hk
          have HK := Lib.hid hk; clear hk
          have hg : g ∈ gs := by rw [hgs.out]; simp
          have hvb := HV.out g hg
          obtain ⟨hvg, kb, hkb, hne0⟩ := H.out.vals g hg
          obtain ⟨hkl, hkl2⟩ := hvg.lt kb hkb
          have hg0l := (HROW.out.lt g0 rfl).2
          have hgne : g0 ≠ kb := by intro e; apply hne0; simp [Value.ownBlock, e]
          have hf0 := H.out.row
          generalize hu : g.2.2 = u at *
          have HU := Lib.hid hu; clear hu
          have hkb0 := Lib.hid hkb; clear hkb hne0 hf0
          have hvg0 := Lib.hid hvg; clear hvg
          generalize hm : g.2.1 = vs at *
          have HM := Lib.hid hm; clear hm
          go_wp2_with (at_builtin; refine wpl_app2 rfl (.tmp 42) (.tmp 44) 59 rfl base 9 (.string ByteArray.empty) 1 16 (by kernel_rfl) info9 rfl (by decide) (by decide) u vs.length (vs.map sv) rfl (hvg0.out.alloc _) ⟨w.heap.size, 0, none⟩ 1 1 [sv V] rfl rfl (cell_str w V) (sv_one [V]) (by decide) (by omega) (by simp; omega) ?_; intro v1 w1 hown1 hgrow1 hwh; obtain ⟨g1, c1', rfl, hw1⟩ := hwh; obtain ⟨z1, zf⟩ := row_kept hgrow1 hkb0.out hg0l hgne c1 f1; have hk1 := Lib.hid (And.intro hown1 (And.intro hgrow1 hw1)); clear hown1 hgrow1 hw1)
          go_ret
          have e1 := hk1.out
          have e9 := put_upd_fin K V H.out hgs.out HN.out hbase _ (by rw [HM.out]; exact e1.1) (by rw [HU.out]; exact e1.2.1) (by rw [HU.out]; exact e1.2.2) HA.out HLT.out HK.out
          rw [HM.out] at e9
          exact e9
        · have hk' : (g.1 == K) = false := by rw [beq_eq_false_iff_ne]; exact hk
          have HK := Lib.hid hk; clear hk
          go_wp2_with (at_builtin; refine wpl_app2 rfl (.tmp 49) (.tmp 51) 39 rfl base 61 (.agg #[.string ByteArray.empty, .slice none 0 0]) 2 40 (by kernel_rfl) info61 rfl (by decide) (by decide) (.slice (some ⟨g0, 0, none⟩) N c) N (cellsF gs) rfl (HROW.out.alloc _) ⟨w.heap.size, 0, none⟩ 1 1 [.string (bstr []), .slice none 0 0] rfl rfl (cell_two_new w _ _ 61) (two_one _ _ rfl rfl) (by decide) (by omega) (by simp; omega) ?_; intro v1 w1 hown1 hgrow1 hwh; obtain ⟨g1, c1, rfl, hw1⟩ := hwh; obtain ⟨cur, hb1, hs1, hNc, hcm, ht1⟩ := own_blk hown1; have hk1 := Lib.hid (And.intro hown1 (And.intro hgrow1 (And.intro hw1 (And.intro hb1 ht1)))); clear hown1 hgrow1 hw1 hb1 ht1)
          have hAN : A.length ≤ N := by omega
          have hone := cells_one H.out hk1.out.2.2.2.2 A.length N
          obtain ⟨z, w2, cur2, hcopy, hch2, hb2, hs2, ht2⟩ := copy_fields w1.drew g1 c1 N A.length cur hk1.out.2.2.2.1 hs1 hNc hAN hone 3
          obtain ⟨V56, hV56⟩ : ∃ V, V = Value.slice (subK (some ⟨g1, 0, none⟩) c1 (A.length + 1) 2) (N - A.length) (c1 - (A.length + 1)) := ⟨_, rfl⟩
          obtain ⟨V59, hV59⟩ : ∃ V, V = Value.slice (subK (some ⟨g1, 0, none⟩) c1 A.length 2) (N + 1 - A.length) (c1 - A.length) := ⟨_, rfl⟩
          rw [← hV56, ← hV59] at hcopy
          have s56 : ∀ wy : World, (Instr.slice 39 (.slice (some ⟨g1, 0, none⟩) (N + 1) c1) (some (.int .i64 ((A.length : Int) + 1))) none none).run Tryz.prog wy = .ok V56 wy := fun wy => by
            rw [slice39_l _ _ _ _ _ (by omega) (by omega) wy, hV56, show ((A.length : Int) + 1).toNat = A.length + 1 from by omega, show N + 1 - (A.length + 1) = N - A.length from by omega]
          have s59 : ∀ wy : World, (Instr.slice 39 (.slice (some ⟨g1, 0, none⟩) (N + 1) c1) (some (.int .i64 (A.length : Int))) none none).run Tryz.prog wy = .ok V59 wy := fun wy => by
            rw [slice39_l _ _ _ _ _ (by omega) (by omega) wy, hV59, Int.toNat_natCast]
          clear hV56 hV59 hone
          have hcap2 : A.length * 2 + 1 < cur2.size := by omega
          have h20 : w2.cell? ⟨g1, A.length * 2, none⟩ = some (cur2[A.length * 2]'(by omega)) := by rw [hb2.cell]; exact Array.getElem?_eq_getElem _
          have h21 : w2.cell? ⟨g1, A.length * 2 + 1, none⟩ = some (cur2[A.length * 2 + 1]'(by omega)) := by rw [hb2.cell]; exact Array.getElem?_eq_getElem _
          generalize cur2[A.length * 2]'(by omega) = o20 at h20
          generalize cur2[A.length * 2 + 1]'(by omega) = o21 at h21
          have f20 := hb2.free (A.length * 2)
          have f21 := hb2.free (A.length * 2 + 1)
          have hlt2 := hb2.lt
          have hk2 := Lib.hid (And.intro hch2 (And.intro hb2 (And.intro hs2 ht2))); clear hch2 hb2 hs2 ht2 hcap2
          have hwr : IntKind.i64.wrap ((A.length : Int) + 1) = (A.length : Int) + 1 := IntWalk.i64_in _ (by omega)
          go_still_tail 7, (by kernel_rfl)
          change wpList _ _ _ _ _ w1.drew
          clear hwr
          go_wp2
          go_ret
          obtain ⟨X, Y, hXY⟩ := ins_take (A := A) (R := g :: B) (N := N) (by have := HN.out; rw [hgs.out] at this; simpa using this.symm) (by rw [← hgs.out]; exact hk1.out.2.2.2.2)
          exact put_ins_fin K V H.out hgs.out HN.out hbase _ hk1.out.1 hk1.out.2.1 hk1.out.2.2.1 (((Chg.refl _ _).drew).trans hk2.out.1) cur2 hk2.out.2.1 hk2.out.2.2.1 X Y (hk2.out.2.2.2.trans hXY) HA.out (fun g' B' h => by cases h; exact ⟨HLT.out, HK.out⟩)
end Go.Proofs.YtekndndhgkdggaaGreatDoor

namespace Go.Proofs.YtekndndhgkdggaaGreatDoor
open Go.RowKit

theorem nextB_on {bd nl rem : Bs} {parts : Nat} {soon : Bool} (h : (takeLine rem).2.2 = true) : nextB bd parts soon nl rem =
    if delimB bd (nlB bd nl parts (takeLine rem).1) (takeLine rem).1 then (true, 0, (takeLine rem).2.1, nlB bd nl parts (takeLine rem).1)
    else if finalB bd (nlB bd nl parts (takeLine rem).1) (takeLine rem).1 then (false, 0, (takeLine rem).2.1, nlB bd nl parts (takeLine rem).1)
    else if soon then (false, 2, (takeLine rem).2.1, nlB bd nl parts (takeLine rem).1)
    else if parts = 0 then nextB bd parts soon (nlB bd nl parts (takeLine rem).1) (takeLine rem).2.1
    else if (takeLine rem).1 = nlB bd nl parts (takeLine rem).1 then nextB bd parts true (nlB bd nl parts (takeLine rem).1) (takeLine rem).2.1
    else (false, 2, (takeLine rem).2.1, nlB bd nl parts (takeLine rem).1) := by
  rw [nextB]; simp only [dif_pos h]
theorem nextB_off {bd nl rem : Bs} {parts : Nat} {soon : Bool} (h : (takeLine rem).2.2 = false) : nextB bd parts soon nl rem =
    if finalB bd nl (takeLine rem).1 then (false, 0, [], nl) else (false, 1, [], nl) := by
  rw [nextB]; simp [h]

theorem nlB_len {bd nl m : Bs} {parts : Nat} (h : 0 < nl.length ∧ nl.length ≤ 2) : 0 < (nlB bd nl parts m).length ∧ (nlB bd nl parts m).length ≤ 2 := by
  unfold nlB; split
  · split
    · simp
    · exact h
  · exact h

/-- what 'next' leaves -/
def NextPost (S : List Nat) (w : World) (RB : Nat) (bd : Bs) (parts : Nat) (t : Bool × Nat × Bs × Bs) (e : Ending) (w' : World) : Prop :=
  e = .returned (.tuple #[.bool t.1, .int .i64 t.2.1]) ∧ RdS S w' RB t.2.2.1 bd t.2.2.2 (if t.1 then parts + 1 else parts) ∧ Chg [RB] w w'

theorem RdS.bs {S : List Nat} {w : World} {RB : Nat} {l bd nl : Bs} {parts : Nat} (_h : RdS S w RB l bd nl parts) {v : Value} {m : Bs} (hm : BS (RB :: S) w v m) : BS S w v m := hm.mono (fun x hx => by simp [hx])

set_option maxRecDepth 100000 in
set_option maxHeartbeats 1000000 in
theorem next_any {S : List Nat} {w : World} {RB : Nat} {rem bd nl : Bs} {parts : Nat} (h : RdS S w RB rem bd nl parts) (hl : rem.length ≤ 10000) (hbd : bd.length ≤ 1000) (hbn : bd ≠ []) (hp : parts ≤ 1000) (hnl : 0 < nl.length ∧ nl.length ≤ 2) :
    Calls Tryz.prog 10 #[.pointer (some ⟨RB, 0, none⟩)] w (NextPost S w RB bd parts (nextB bd parts false nl rem)) := by
  have g1 : w.cell? ⟨RB, 1, none⟩ = some (.string (bstr bd)) := by obtain ⟨_, v, hb, _⟩ := h; exact hb.cell 1
  have hne : (bd == []) = false := by rw [beq_eq_false_iff_ne]; exact hbn
  have hne2 : bd.isEmpty = false := by cases bd with | nil => exact absurd rfl hbn | cons _ _ => rfl
  generalize hres : nextB bd parts false nl rem = res
  have HR := Lib.hid hres; clear hres
  have H := Lib.hid h; clear h
  have HBN := Lib.hid hbn; clear hbn
  go_enter Tryz.func10, Tryz.ntmps10
  go_wp2
  clear g1
  go_loopw [4] (fun s wr => ∃ (rem' nl' : Bs) (soon : Bool), s = .bool soon ∧ RdS S wr RB rem' bd nl' parts ∧ rem'.length ≤ 10000 ∧ (0 < nl'.length ∧ nl'.length ≤ 2) ∧ Hid (nextB bd parts soon nl' rem' = res) ∧ Chg [RB] w wr) (fun _ wr => lenV ((wr.cell? ⟨RB, 0, none⟩).getD undef))
  case atStart => exact ⟨rem, nl, false, rfl, H.out, hl, hnl, HR.out, Chg.refl _ _⟩
  case round =>
    clear HR H hnl hl
    obtain ⟨rem', nl', soon, rfl, hrd, hl, hnl, hres, hch⟩ := hrel
    have HRD := Lib.hid hrd; clear hrd
    have hmeas : lenV ((wr.cell? ⟨RB, 0, none⟩).getD undef) = rem'.length := by
      obtain ⟨_, v, hb, a, c, rfl, _⟩ := HRD.out
      rw [hb.cell 0]; rfl
    have HM := Lib.hid hmeas; clear hmeas
    have hln := takeLine_len rem'
    have hen0 := @takeLine_ended rem'
    have hoff0 : (takeLine rem').2.2 = false → (takeLine rem').2.1 = [] := fun h => by rw [takeLine_not_ended h]
    have hon := fun h => (nextB_on (bd := bd) (nl := nl') (rem := rem') (parts := parts) (soon := soon) h).symm.trans hres.out
    have hoff := fun h => (nextB_off (bd := bd) (nl := nl') (rem := rem') (parts := parts) (soon := soon) h).symm.trans hres.out
    clear hres
    have hline := line_any HRD.out (by omega)
    generalize takeLine rem' = t at *
    obtain ⟨x, r, en⟩ := t
    simp only at *
    have HON := Lib.hid hon; clear hon
    have HOFF := Lib.hid hoff; clear hoff
    have HL := Lib.hid hline; clear hline
    have HE0 := Lib.hid hen0; clear hen0
    have HO0 := Lib.hid hoff0; clear hoff0
    cases en with
    | false =>
      have e := HOFF.out rfl
      have hr0 := Lib.hid (HO0.out rfl)
      have HE := Lib.hid e; clear e HON HOFF
      go_wp2_with fail
      refine HL.out.mono ?_
      rintro e w1 ⟨⟨u, rfl, hu⟩, hrd1, hch1⟩
      have HU := Lib.hid (And.intro hu (And.intro hrd1 hch1)); clear hu hrd1 hch1
      cases hf : finalB bd nl' x with
      | true =>
        have HF := Lib.hid hf; clear hf
        go_wp2_with fail
        refine (final_any HU.out.2.1 (HU.out.2.1.bs HU.out.1) (by omega) hbd).mono ?_
        rintro e w2 ⟨rfl, n2, rfl⟩
        rw [HF.out]
        go_wp2
        go_ret2
        have e := HE.out
        rw [HF.out] at e
        rw [← e]
        have hr := hr0.out
        subst hr
        exact ⟨rfl, HU.out.2.1.chg ((Chg.refl _ _).drewN _), (hch.trans HU.out.2.2).drewN _⟩
      | false =>
        have HF := Lib.hid hf; clear hf
        go_wp2_with fail
        refine (final_any HU.out.2.1 (HU.out.2.1.bs HU.out.1) (by omega) hbd).mono ?_
        rintro e w2 ⟨rfl, n2, rfl⟩
        rw [HF.out]
        go_wp2
        go_ret2
        have e := HE.out
        rw [HF.out] at e
        rw [← e]
        have hr := hr0.out
        subst hr
        exact ⟨rfl, HU.out.2.1.chg ((Chg.refl _ _).drewN _), (hch.trans HU.out.2.2).drewN _⟩
    | true =>
      have e := HON.out rfl
      have hnl2 := @nlB_len bd nl' x parts hnl
      have HE := Lib.hid e; clear e HON HOFF
      have hxl : x.length ≤ 100000 := by omega
      have hxp : 0 < x.length := List.length_pos_iff.2 (HE0.out rfl)
      go_wp2_with fail
      refine HL.out.mono ?_
      rintro e w1 ⟨⟨u, rfl, hu⟩, hrd1, hch1⟩
      have HU := Lib.hid (And.intro hu (And.intro hrd1 hch1)); clear hu hrd1 hch1
      go_wp2_with fail
      refine (delim_any HU.out.2.1 HU.out.1 hxl hbd).mono ?_
      rintro e w2 ⟨rfl, hrd2, hch2⟩
      generalize nlB bd nl' parts x = nl2 at *
      have HV := Lib.hid (And.intro (HU.out.1.chg (S := RB :: S) (hch2.mono (by simp))) (And.intro hrd2 (hch.trans (HU.out.2.2.trans hch2)))); clear hrd2 hch2
      obtain ⟨hn, v2, hb2, hs2⟩ := HV.out.2.1
      have c3 : w2.cell? ⟨RB, 3, none⟩ = some (.int .i64 parts) := hb2.cell 3
      have c2 : w2.cell? ⟨RB, 2, none⟩ = some (.string (bstr nl2)) := hb2.cell 2
      have f3 : w2.frozen? ⟨RB, 3, none⟩ = false := hb2.free 3
      have HB2 := Lib.hid (And.intro hb2 hs2); clear hb2 hs2 HL
      cases hd : delimB bd nl2 x with
      | true =>
        have HD := Lib.hid hd; clear hd
        have e := HE.out
        rw [HD.out] at e
        go_wp2
        go_ret2
        rw [← e]
        have hc2 : ∀ v', Chg [RB] w2 (w2.setCell ⟨RB, 3, none⟩ v') := fun v' => (Chg.refl _ _).setCell (by simp) _
        exact ⟨rfl, ⟨hn, v2, HB2.out.1.set 3 _, HB2.out.2.chg ((hc2 _).mono (by simp))⟩, HV.out.2.2.trans (hc2 _)⟩
      | false =>
        have HD := Lib.hid hd; clear hd
        cases hf : finalB bd nl2 x with
        | true =>
          have HF := Lib.hid hf; clear hf
          have e := HE.out
          rw [HD.out, HF.out] at e
          have E2 := Lib.hid e; clear e HE
          go_wp2_with fail
          refine (final_any HV.out.2.1 (HV.out.2.1.bs HV.out.1) hxl hbd).mono ?_
          rintro e w3 ⟨rfl, n3, rfl⟩
          rw [HF.out]
          go_wp2
          go_ret2
          rw [← E2.out]
          exact ⟨rfl, HV.out.2.1.chg ((Chg.refl _ _).drewN _), HV.out.2.2.drewN _⟩
        | false =>
          have HF := Lib.hid hf; clear hf
          have e := HE.out
          rw [HD.out, HF.out] at e
          simp only [Bool.false_eq_true, if_false] at e
          have E2 := Lib.hid e; clear e HE
          cases soon with
          | true =>
            go_wp2_with fail
            refine (final_any HV.out.2.1 (HV.out.2.1.bs HV.out.1) hxl hbd).mono ?_
            rintro e w3 ⟨rfl, n3, rfl⟩
            rw [HF.out]
            go_wp2
            go_ret2
            have e := E2.out
            simp only [if_true] at e
            rw [← e]
            exact ⟨rfl, HV.out.2.1.chg ((Chg.refl _ _).drewN _), HV.out.2.2.drewN _⟩
          | false =>
            by_cases hz : parts = 0
            · have hz' : ((parts : Int) == 0) = true := by rw [beq_iff_eq]; omega
              have HZ := Lib.hid hz; clear hz
              go_wp2_with fail
              refine (final_any HV.out.2.1 (HV.out.2.1.bs HV.out.1) hxl hbd).mono ?_
              rintro e w3 ⟨rfl, n3, rfl⟩
              rw [HF.out]
              go_wp2
              go_roundw
              case rel =>
                refine ⟨r, nl2, false, rfl, HV.out.2.1.chg ((Chg.refl _ _).drewN _), by omega, hnl2, ?_, HV.out.2.2.drewN _⟩
                have e := E2.out
                simp only [Bool.false_eq_true, if_false, if_pos HZ.out] at e
                exact e
              case measure =>
                rw [HM.out]
                obtain ⟨_, v9, hb9, a9, c9, rfl, _⟩ := HV.out.2.1
                rw [World.cell?_drewN, hb9.cell 0]
                simp [lenV]; omega
            · have hz' : ((parts : Int) == 0) = false := by rw [beq_eq_false_iff_ne]; omega
              have HZ := Lib.hid hz; clear hz
              have hconv := fun n => conv22_9 (HV.out.1.drewN n)
              by_cases hxn : x = nl2
              · have hx' : (x == nl2) = true := by rw [beq_iff_eq]; exact hxn
                have HX := Lib.hid hxn; clear hxn
                go_wp2_with fail
                refine (final_any HV.out.2.1 (HV.out.2.1.bs HV.out.1) hxl hbd).mono ?_
                rintro e w3 ⟨rfl, n3, rfl⟩
                rw [HF.out]
                go_wp2
                go_quiet (fail)
                go_wp2
                go_roundw
                case rel =>
                  refine ⟨r, nl2, true, rfl, HV.out.2.1.chg (((Chg.refl _ _).drewN _).drewN _), by omega, hnl2, ?_, (HV.out.2.2.drewN _).drewN _⟩
                  have e := E2.out
                  simp only [Bool.false_eq_true, if_false, if_neg HZ.out, if_pos HX.out] at e
                  exact e
                case measure =>
                  rw [HM.out]
                  obtain ⟨_, v9, hb9, a9, c9, rfl, _⟩ := HV.out.2.1
                  rw [World.cell?_drewN, World.cell?_drewN, hb9.cell 0]
                  simp [lenV]; omega
              · have hx' : (x == nl2) = false := by rw [beq_eq_false_iff_ne]; exact hxn
                have HX := Lib.hid hxn; clear hxn
                go_wp2_with fail
                refine (final_any HV.out.2.1 (HV.out.2.1.bs HV.out.1) hxl hbd).mono ?_
                rintro e w3 ⟨rfl, n3, rfl⟩
                rw [HF.out]
                go_wp2
                go_quiet (fail)
                go_wp2
                go_ret2
                have e := E2.out
                simp only [Bool.false_eq_true, if_false, if_neg HZ.out, if_neg HX.out] at e
                rw [← e]
                exact ⟨rfl, HV.out.2.1.chg (((Chg.refl _ _).drewN _).drewN _), (HV.out.2.2.drewN _).drewN _⟩
end Go.Proofs.YtekndndhgkdggaaGreatDoor

namespace Go.Proofs.YtekndndhgkdggaaGreatDoor
open Go.RowKit

/-- the first k meet p -/
def AllB (p : UInt8 → Bool) (l : Bs) (k : Nat) : Prop := ∀ j, j < k → p (l.getD j 0) = true
theorem AllB.zero (p : UInt8 → Bool) (l : Bs) : AllB p l 0 := fun j h => by cases h
theorem AllB.succ {p : UInt8 → Bool} {l : Bs} {k : Nat} (h : AllB p l k) (hk : p (l.getD k 0) = true) : AllB p l (k + 1) := fun j hj => by
  by_cases e : j = k
  · subst e; exact hk
  · exact h j (by omega)
theorem AllB.all {p : UInt8 → Bool} {l : Bs} (h : AllB p l l.length) : l.all p = true := by
  rw [List.all_eq_true]
  intro x hx
  obtain ⟨i, hi, he⟩ := List.getElem_of_mem hx
  have := h i hi
  simpa [List.getD, List.getElem?_eq_getElem hi, he] using this
theorem not_all {p : UInt8 → Bool} {l : Bs} {k : Nat} (hk : k < l.length) (h : p (l.getD k 0) = false) : l.all p = false := by
  rw [Bool.eq_false_iff]
  intro e
  rw [List.all_eq_true] at e
  have := e (l.getD k 0) (by simp [List.getD, List.getElem?_eq_getElem hk])
  rw [h] at this; cases this

theorem take_succ_contains (l : Bs) (k : Nat) (c : UInt8) (hk : k < l.length) : (l.take (k + 1)).contains c = ((l.take k).contains c || l.getD k 0 == c) := by
  have e : l.getD k 0 = l[k] := by simp [List.getD, List.getElem?_eq_getElem hk]
  rw [e, List.take_succ_eq_append_getElem hk, List.contains_eq_mem, List.contains_eq_mem, Bool.eq_iff_iff]
  simp only [List.mem_append, List.mem_singleton, decide_eq_true_eq, Bool.or_eq_true, beq_iff_eq]
  rw [eq_comm (a := c)]

theorem bv_eq {d : UInt8} (c : UInt8) (n : Int) (hn : n = (c.toNat : Int)) (h : d = c) : ((d.toNat : Int) == n) = true := by rw [u8i d c n hn]; simpa using h
theorem bv_ne {d : UInt8} (c : UInt8) (n : Int) (hn : n = (c.toNat : Int)) (h : d ≠ c) : ((d.toNat : Int) == n) = false := by rw [u8i d c n hn]; simpa using h

def keyOkB (c : UInt8) : Bool := c == 32 || tokenB c

theorem canon_step (up : Bool) (l : Bs) (k : Nat) (hk : k < l.length) (out : Bs) (K : Bs) (h : out ++ canonB up (l.drop k) = K) (d : UInt8)
    (hd : d = if up && (97 ≤ l.getD k 0 && l.getD k 0 ≤ 122) then l.getD k 0 - 32 else if !up && (65 ≤ l.getD k 0 && l.getD k 0 ≤ 90) then l.getD k 0 + 32 else l.getD k 0) :
    (out ++ [d]) ++ canonB (d == 45) (l.drop (k + 1)) = K := by
  rw [drop_cons_of_lt l k hk] at h
  rw [← h]
  simp only [canonB]
  subst hd
  simp

theorem sub32 (c : UInt8) (h : 97 ≤ (c.toNat : Int)) : Value.int .u8 ((c.toNat : Int) - 32) = bv (c - 32) := by
  unfold bv
  have : (c - 32).toNat = c.toNat - 32 := by
    rw [UInt8.toNat_sub_of_le]
    · rfl
    · rw [UInt8.le_iff_toNat_le]; show 32 ≤ c.toNat; omega
  rw [this]; congr 1; omega
theorem add32 (c : UInt8) (h : (c.toNat : Int) ≤ 90) : Value.int .u8 ((c.toNat : Int) + 32) = bv (c + 32) := by
  unfold bv
  have : (c + 32).toNat = c.toNat + 32 := by
    rw [UInt8.toNat_add]; show (c.toNat + 32) % 256 = _; omega
  rw [this]; rfl

theorem BS.one (w : World) (d : UInt8) : BS [] (w.alloc (.cells #[bv d] 5)) (.slice (some ⟨w.heap.size, 0, none⟩) 1 1) [d] := by
  refine BS.of_seg ⟨by simp, ?_⟩ rfl (Nat.le_refl _) (by simp)
  intro i hi
  simp at hi
  subst hi
  simp

theorem buildSlice_nil (w : World) : (Instr.buildSlice 22 0 #[]).run Tryz.prog w = .ok (.slice (some ⟨w.heap.size, 0, none⟩) 0 0) (w.alloc (.cells #[] 5)) := by
  kernel_rfl

set_option maxRecDepth 100000 in
set_option maxHeartbeats 1000000 in
theorem key_any {S : List Nat} {w : World} {v : Value} {l : Bs} (h : BS S w v l) (hl : l.length ≤ 100000) :
    Calls Tryz.prog 29 #[v] w fun e w' => e = .returned (.tuple #[.string (bstr ((keyB l).getD [])), .bool (keyB l).isSome]) ∧ Chg [] w w' := by
  obtain ⟨a, c, rfl, hlc, _⟩ := id h
  generalize hres : keyB l = res
  have hres1 : (if l.all keyOkB then some (if l.contains 32 then l else canonB true l) else none) = res := hres
  have HR := Lib.hid hres1; clear hres hres1
  have H := Lib.hid h; clear h
  go_enter Tryz.func29, Tryz.ntmps29
  go_wp2
  go_loopw [4, 13] (fun s i wr => ∃ k : Nat, k ≤ l.length ∧ i = .int .i64 k ∧ s = .bool ((l.take k).contains 32) ∧ AllB keyOkB l k ∧ Chg [] w wr) (fun _ i _ => l.length - (intOf i).toNat)
  case atStart => exact ⟨0, Nat.zero_le _, rfl, by simp, AllB.zero _ _, Chg.refl _ _⟩
  case round =>
    obtain ⟨k, hk, rfl, rfl, hall, hch⟩ := hrel
    have H1 := Lib.hid (H.out.chg hch.none)
    by_cases hlt : k < l.length
    · obtain ⟨b, o, rfl, _, hseg⟩ := H1.out.at_ (by omega)
      have hcell := hseg.cell k hlt
      have hts := take_succ_contains l k 32 hlt
      generalize hd : l.getD k 0 = d at hcell hts
      have HD := Lib.hid hd; clear hd
      have HTS := Lib.hid hts; clear hts hseg
      generalize hsp : (l.take k).contains 32 = sp at *
      clear hsp
      by_cases he : d = 32
      · have ht : ((d.toNat : Int) == 32) = true := bv_eq 32 32 rfl he
        have HE := Lib.hid he; clear he
        go_wp2
        go_roundw
        case rel => exact ⟨k + 1, by omega, by go_num, by rw [HTS.out, HE.out]; simp, hall.succ (by rw [HD.out, HE.out]; rfl), hch⟩
        case measure => simp [intOf]; omega
      · have ht : ((d.toNat : Int) == 32) = false := bv_ne 32 32 rfl he
        have he2 : (d == 32) = false := by simpa using he
        have HE := Lib.hid he2; clear he he2
        cases htok : tokenB d
        · have HTK := Lib.hid htok; clear htok
          go_wp2_with fail
          refine (token_any d _).mono ?_
          rintro e w' ⟨rfl, hc2⟩
          rw [HTK.out]
          go_wp2
          go_ret2
          refine ⟨?_, hch.trans hc2⟩
          rw [← HR.out, not_all (k := k) hlt (by rw [HD.out]; unfold keyOkB; rw [HE.out, HTK.out]; rfl)]; rfl
        · have HTK := Lib.hid htok; clear htok
          go_wp2_with fail
          refine (token_any d _).mono ?_
          rintro e w' ⟨rfl, hc2⟩
          rw [HTK.out]
          go_wp2
          go_roundw
          case rel => exact ⟨k + 1, by omega, by go_num, by rw [HTS.out, HE.out]; simp, hall.succ (by rw [HD.out]; unfold keyOkB; rw [HE.out, HTK.out]; rfl), hch.trans hc2⟩
          case measure => simp [intOf]; omega
    · have hke : k = l.length := by omega
      subst hke
      have hallt := AllB.all hall
      rw [List.take_length] at *
      have HA := Lib.hid hallt
      clear hall hallt
      cases hsp : l.contains 32
      · have HSP := Lib.hid hsp; clear hsp
        go_wp2
        have hown0 : (wr.alloc (.cells #[] 5)).ownsRow w.heap.size 5 1 (.slice (some ⟨wr.heap.size, 0, none⟩) 0 0) 0 (([] : Bs).map bv) :=
          World.ownsRow_made wr #[] 0 hch.size (by unfold maxLen; omega) rfl
        have hch0 := hch.alloc (.cells #[] 5)
        have HOWN := Lib.hid (And.intro hown0 hch0)
        clear hown0 hch0 hch H1
        go_loopw [7, 8, 29] (fun o u i wr2 => ∃ (k : Nat) (out : Bs) (up : Bool), k ≤ l.length ∧ i = .int .i64 k ∧ u = .bool up ∧ Hid (out ++ canonB up (l.drop k) = canonB true l) ∧ wr2.ownsRow w.heap.size 5 1 o k (out.map bv) ∧ Chg [] w wr2) (fun _ _ i _ => l.length - (intOf i).toNat)
        case atStart => exact ⟨0, [], true, Nat.zero_le _, rfl, rfl, rfl, HOWN.out.1, HOWN.out.2⟩
        case round =>
          clear HOWN
          obtain ⟨k, out, up, hk, rfl, rfl, hcan, hown, hch⟩ := hrel
          have H1 := Lib.hid (H.out.chg hch.none)
          have hsz := hch.size
          have hokn : out.length = k := by have := hown.1; simpa using this
          by_cases hlt : k < l.length
          · obtain ⟨b, o, rfl, _, hseg⟩ := H1.out.at_ (by omega)
            have hcell := hseg.cell k hlt
            have hstep := fun d hd => canon_step up l k hlt out _ hcan.out d hd
            generalize hd : l.getD k 0 = d at hcell hstep
            have HST := Lib.hid hstep
            clear hd hseg hstep hokn
            have h255 : (d.toNat : Int) ≤ 255 := by have := d.toNat_lt; omega
            have e1 := u8ge d 97 97 rfl
            have e2 := u8le d 122 122 rfl
            have e3 := u8ge d 65 65 rfl
            have e4 := u8le d 90 90 rfl
            have E := Lib.hid (And.intro e1 (And.intro e2 (And.intro e3 e4))); clear e1 e2 e3 e4
            cases up
            · by_cases hr : 65 ≤ (d.toNat : Int) ∧ (d.toNat : Int) ≤ 90
              · obtain ⟨r1, r2⟩ := hr
                obtain ⟨d2, hd2, hdd⟩ : ∃ d2 : UInt8, d2 = d + 32 ∧ (d.toNat : Int) + 32 = d2.toNat := ⟨d + 32, rfl, by have := add32 d r2; simp only [bv, Value.int.injEq, true_and] at this; exact this⟩
                have HD2 := Lib.hid hd2; clear hd2
                have hfin := u8i d2 45 45 rfl
                go_wp2_with (at_builtin; refine wpl_app_bytes rfl _ _ rfl w.heap.size _ k out rfl (hown.alloc _) [] _ [d2] rfl (BS.one _ d2) (by simp; omega) (by simp; omega) ?_; intro v' w1 hown1 hgrow1 _)
                go_roundw
                case rel => exact ⟨k + 1, out ++ [d2], d2 == 45, by omega, by go_num, rfl, HST.out d2 (by rw [HD2.out, E.out.2.2.1, E.out.2.2.2]; simp [r1, r2]), hown1, (hch.alloc _).grown hgrow1 (fun g hg => .inr (hown.lt g hg).1)⟩
                case measure => simp [intOf]; omega
              · have hr2 : (d.toNat : Int) < 65 ∨ 90 < (d.toNat : Int) := by omega
                have HR2 := Lib.hid hr; clear hr
                rcases hr2 with r1 | r1
                · skip
                  have hfin := u8i d 45 45 rfl
                  go_wp2_with (at_builtin; refine wpl_app_bytes rfl _ _ rfl w.heap.size _ k out rfl (hown.alloc _) [] _ [d] rfl (BS.one _ d) (by simp; omega) (by simp; omega) ?_; intro v' w1 hown1 hgrow1 _)
                  go_roundw
                  case rel => exact ⟨k + 1, out ++ [d], d == 45, by omega, by go_num, rfl, HST.out d (by have := HR2.out; rw [E.out.2.2.1, E.out.2.2.2]; simp; omega), hown1, (hch.alloc _).grown hgrow1 (fun g hg => .inr (hown.lt g hg).1)⟩
                  case measure => simp [intOf]; omega
                · skip
                  have hfin := u8i d 45 45 rfl
                  go_wp2_with (at_builtin; refine wpl_app_bytes rfl _ _ rfl w.heap.size _ k out rfl (hown.alloc _) [] _ [d] rfl (BS.one _ d) (by simp; omega) (by simp; omega) ?_; intro v' w1 hown1 hgrow1 _)
                  go_roundw
                  case rel => exact ⟨k + 1, out ++ [d], d == 45, by omega, by go_num, rfl, HST.out d (by have := HR2.out; rw [E.out.2.2.1, E.out.2.2.2]; simp; omega), hown1, (hch.alloc _).grown hgrow1 (fun g hg => .inr (hown.lt g hg).1)⟩
                  case measure => simp [intOf]; omega
            · by_cases hr : 97 ≤ (d.toNat : Int) ∧ (d.toNat : Int) ≤ 122
              · obtain ⟨r1, r2⟩ := hr
                obtain ⟨d2, hd2, hdd⟩ : ∃ d2 : UInt8, d2 = d - 32 ∧ (d.toNat : Int) - 32 = d2.toNat := ⟨d - 32, rfl, by have := sub32 d r1; simp only [bv, Value.int.injEq, true_and] at this; exact this⟩
                have HD2 := Lib.hid hd2; clear hd2
                have hfin := u8i d2 45 45 rfl
                go_wp2_with (at_builtin; refine wpl_app_bytes rfl _ _ rfl w.heap.size _ k out rfl (hown.alloc _) [] _ [d2] rfl (BS.one _ d2) (by simp; omega) (by simp; omega) ?_; intro v' w1 hown1 hgrow1 _)
                go_roundw
                case rel => exact ⟨k + 1, out ++ [d2], d2 == 45, by omega, by go_num, rfl, HST.out d2 (by rw [HD2.out, E.out.1, E.out.2.1]; simp [r1, r2]), hown1, (hch.alloc _).grown hgrow1 (fun g hg => .inr (hown.lt g hg).1)⟩
                case measure => simp [intOf]; omega
              · have hr2 : (d.toNat : Int) < 97 ∨ 122 < (d.toNat : Int) := by omega
                have HR2 := Lib.hid hr; clear hr
                rcases hr2 with r1 | r1
                · skip
                  have hfin := u8i d 45 45 rfl
                  go_wp2_with (at_builtin; refine wpl_app_bytes rfl _ _ rfl w.heap.size _ k out rfl (hown.alloc _) [] _ [d] rfl (BS.one _ d) (by simp; omega) (by simp; omega) ?_; intro v' w1 hown1 hgrow1 _)
                  go_roundw
                  case rel => exact ⟨k + 1, out ++ [d], d == 45, by omega, by go_num, rfl, HST.out d (by have := HR2.out; rw [E.out.1, E.out.2.1]; simp; omega), hown1, (hch.alloc _).grown hgrow1 (fun g hg => .inr (hown.lt g hg).1)⟩
                  case measure => simp [intOf]; omega
                · skip
                  have hfin := u8i d 45 45 rfl
                  go_wp2_with (at_builtin; refine wpl_app_bytes rfl _ _ rfl w.heap.size _ k out rfl (hown.alloc _) [] _ [d] rfl (BS.one _ d) (by simp; omega) (by simp; omega) ?_; intro v' w1 hown1 hgrow1 _)
                  go_roundw
                  case rel => exact ⟨k + 1, out ++ [d], d == 45, by omega, by go_num, rfl, HST.out d (by have := HR2.out; rw [E.out.1, E.out.2.1]; simp; omega), hown1, (hch.alloc _).grown hgrow1 (fun g hg => .inr (hown.lt g hg).1)⟩
                  case measure => simp [intOf]; omega
          · have hke : k = l.length := by omega
            subst hke
            have hconv := conv22_9 (BS.of_own (S := []) hown (by simp))
            rw [List.drop_length] at hcan
            have HC := Lib.hid hcan.out; clear hcan
            go_wp2
            go_ret2
            refine ⟨?_, hch⟩
            have e := HC.out
            rw [show canonB up [] = [] from rfl, List.append_nil] at e
            rw [← HR.out, HA.out, HSP.out, e]; rfl
      · have HSP := Lib.hid hsp; clear hsp
        have hconv := conv22_9 H1.out
        go_wp2
        go_ret2
        refine ⟨?_, hch⟩
        rw [← HR.out, HA.out, HSP.out]; rfl
end Go.Proofs.YtekndndhgkdggaaGreatDoor
