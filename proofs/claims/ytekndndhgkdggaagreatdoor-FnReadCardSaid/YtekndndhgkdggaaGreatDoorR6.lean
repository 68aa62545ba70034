/- The bytes that lie ahead: the program's own reader of them; what the package variables hold. The buffered reader's fill. Package bytes: IndexByte, Equal, HasPrefix; blanks left out ahead. The first fill: nothing has been read yet. The buffered reader's smaller words; ReadSlice. -/
import Derived.Test.YtekndndhgkdggaaGreatDoorR5
import Derived.Handy
import Derived.LaidEql
import Derived.Stop.Asserts
import Derived.StillTailTactics
import Derived.Deep.RegionHeld3
import Derived.Shelf.Bytes.SlIndexAt
namespace Go.Proofs.YtekndndhgkdggaaGreatDoor
open Go.RowKit

/-- an error made by errors.New, at p -/
abbrev erv (p : Addr) : Value := .iface 118 (.pointer (some p))

/-- unicode.asciiFold, but for k and s -/
def foldA (i : Nat) : Nat := if 97 ≤ i ∧ i ≤ 122 then i - 32 else if 65 ≤ i ∧ i ≤ 90 then i + 32 else i

/-- What the package variables hold: the errors at g; all of it lies below B. -/
structure Glb (B : Nat) (g : Nat → Addr) (w : World) : Prop where
  le : B ≤ w.heap.size
  lo : 15 ≤ B
  err : ∀ i, i < 6 ∨ (12 ≤ i ∧ i < 15) → w.cell? ⟨i, 0, none⟩ = some (erv (g i)) ∧ (g i).block < B
  blk : ∀ i, i < 6 ∨ (12 ≤ i ∧ i < 15) → ∃ cs T, Blk w (g i).block cs T
  msg : w.cell? (g 12) = some (.string (bstr [109, 101, 115, 115, 97, 103, 101, 32, 116, 111, 111, 32, 108, 97, 114, 103, 101]))
  eof : w.cell? (g 0) = some (.string (bstr [69, 79, 70]))
  ne : g 0 ≠ g 1 ∧ g 0 ≠ g 12 ∧ g 0 ≠ g 5 ∧ g 0 ≠ g 2
  asc : ∀ i, i < 128 → i ≠ 107 → i ≠ 115 → w.cell? ⟨7, i, none⟩ = some (.int .u16 (foldA i : Int))

theorem Glb.chg {S : List Nat} {B : Nat} {g : Nat → Addr} {w w' : World} (h : Glb B g w) (hc : Chg S w w') (hs : ∀ x, x ∈ S → B ≤ x) : Glb B g w' := by
  have k : ∀ p : Addr, p.block < B → w'.cell? p = w.cell? p := fun p hp => hc.cell (Nat.lt_of_lt_of_le hp h.le) (fun hm => absurd (hs _ hm) (by omega))
  have hl := h.lo
  refine ⟨Nat.le_trans h.le hc.size, h.lo, fun i hi => ?_, fun i hi => ?_, ?_, ?_, h.ne, fun i h1 h2 h3 => by rw [k ⟨7, i, none⟩ (by show 7 < B; omega)]; exact h.asc i h1 h2 h3⟩
  · have := h.err i hi
    exact ⟨by rw [k ⟨i, 0, none⟩ (by show i < B; omega)]; exact this.1, this.2⟩
  · obtain ⟨cs, T, hb⟩ := h.blk i hi
    exact ⟨cs, T, hb.chg hc (fun hm => absurd (hs _ hm) (by have := (h.err i hi).2; omega))⟩
  · rw [k _ (h.err 12 (by omega)).2]; exact h.msg
  · rw [k _ (h.err 0 (by omega)).2]; exact h.eof

/-- at p lies an error's cell -/
def EA (w : World) (p : Addr) : Prop := ∃ cs T, Blk w p.block cs T
theorem EA.chg {S : List Nat} {w w' : World} {p : Addr} (h : EA w p) (hc : Chg S w w') (hn : p.block ∉ S) : EA w' p := h.imp fun _ k => k.imp fun _ k => k.chg hc hn
theorem Glb.ea {B : Nat} {g : Nat → Addr} {w : World} (h : Glb B g w) (i : Nat) (hi : i < 6 ∨ (12 ≤ i ∧ i < 15)) : EA w (g i) := h.blk i hi

theorem err_types_of {P : Program} (a b : TypeId) (h1 : (match P.underlying a with | some (.pointer te) => (P.info? te).any (fun j => j.size != 0) | _ => false) = true)
    (h2 : (match P.underlying b with | some (.interface _) => true | _ => false) = true) (h3 : (P.info? a).any (·.comparable) = true) :
    ∃ te ms i j, P.underlying a = some (.pointer te) ∧ P.underlying b = some (.interface ms) ∧ P.info? a = some i ∧ i.comparable = true ∧ P.info? te = some j ∧ j.size ≠ 0 := by
  cases hu : P.underlying a with
  | none => rw [hu] at h1; cases h1
  | some d =>
    rw [hu] at h1
    cases hv : P.underlying b with
    | none => rw [hv] at h2; cases h2
    | some d2 =>
      rw [hv] at h2
      cases d <;> try (cases h1; done)
      cases d2 <;> try (cases h2; done)
      rename_i te ms
      cases hi : P.info? a with
      | none => rw [hi] at h3; cases h3
      | some i =>
        cases hj : P.info? te with
        | none => simp only [hj] at h1; cases h1
        | some j =>
          rw [hi] at h3; simp only [hj] at h1
          exact ⟨te, ms, i, j, rfl, rfl, rfl, by simpa using h3, hj, by simpa using h1⟩
theorem err_types : ∃ te ms i j, Tryz.prog.underlying 118 = some (.pointer te) ∧ Tryz.prog.underlying 54 = some (.interface ms) ∧ Tryz.prog.info? 118 = some i ∧ i.comparable = true ∧ Tryz.prog.info? te = some j ∧ j.size ≠ 0 :=
  err_types_of 118 54 (by kernel_rfl) (by kernel_rfl) (by kernel_rfl)
theorem eql_ne {W : World} {x a : Addr} (hx : EA W x) (ha : EA W a) (h : x ≠ a) : (binOp .eql 54 (erv x) (erv a)).run Tryz.prog W = .ok (.bool false) W := by
  obtain ⟨cx, tx, hx⟩ := hx
  obtain ⟨ca, ta, ha⟩ := ha
  obtain ⟨te, ms, i, j, h1, h2, h3, h4, h5, h6⟩ := err_types
  exact run_eql_iface_ptr_other (P := Tryz.prog) W h2 h1 h3 h4 h5 h6 h hx ha
theorem eql_eq (W : World) (x : Addr) : (binOp .eql 54 (erv x) (erv x)).run Tryz.prog W = .ok (.bool true) W := by
  obtain ⟨te, ms, i, j, h1, h2, h3, h4, h5, h6⟩ := err_types
  exact run_eql_iface_ptr_same (P := Tryz.prog) W x h2 h1 h3 h4 h5

/-- The blocks of the readers: the bytes', the one that keeps its error, the buffered one, its buffer. -/
structure Hs where
  RD : Nat
  ST : Nat
  BR : Nat
  U : Nat

def Hs.all (h : Hs) : List Nat := [h.RD, h.ST, h.BR, h.U]

structure Hs.ok (h : Hs) (B : Nat) : Prop where
  b1 : B ≤ h.RD
  b2 : B ≤ h.ST
  b3 : B ≤ h.BR
  b4 : B ≤ h.U
  n12 : h.RD ≠ h.ST
  n13 : h.RD ≠ h.BR
  n14 : h.RD ≠ h.U
  n23 : h.ST ≠ h.BR
  n24 : h.ST ≠ h.U
  n34 : h.BR ≠ h.U

/-- the buffered reader's own cells -/
def brc (h : Hs) (r x : Nat) (e : Value) (lb lr : Int) : Array Value :=
  #[.slice (some ⟨h.U, 0, none⟩) 4096 4096, .iface 77 (.pointer (some ⟨h.ST, 0, none⟩)), .int .i64 (r : Int), .int .i64 (x : Int), e, .int .i64 lb, .int .i64 lr]

/-- Nothing is left in the bytes' own reader; in the buffer, from r on, lies rem. -/
structure InS (B : Nat) (g : Nat → Addr) (h : Hs) (w : World) (r : Nat) (rem : Bs) (e : Value) (lb lr : Int) : Prop where
  gl : Glb B g w
  ok : h.ok B
  br : Blk w h.BR (brc h r (r + rem.length) e lb lr) 98
  st : ∃ s, Blk w h.ST #[.iface 49 (.pointer (some ⟨h.RD, 0, none⟩)), s] 79 ∧ (s = .nilIface ∨ s = erv (g 0))
  rd : ∃ a n c p, Blk w h.RD #[.slice a n c, .int .i64 (n : Int), p] 83 ∧ n ≤ 3000
  u : ∃ cs T, Blk w h.U cs T ∧ cs.size = 4096 ∧ ∀ i, i < rem.length → cs[r + i]? = some (bv (rem.getD i 0))
  lt : r + rem.length ≤ 3000

set_option maxRecDepth 100000 in
set_option maxHeartbeats 400000 in
theorem bytesRead_eof {B : Nat} {g : Nat → Addr} {w : World} {RD : Nat} {a : Option Addr} {n c : Nat} {p : Value} (d : Value) (hg : Glb B g w) (h : Blk w RD #[.slice a n c, .int .i64 (n : Int), p] 83) (hn : n ≤ 100000) :
    Calls Tryz.prog 138 #[.pointer (some ⟨RD, 0, none⟩), d] w fun e w' => e = .returned (.tuple #[.int .i64 0, erv (g 0)]) ∧ Chg [] w w' := by
  have g0 := (hg.err 0 (by omega)).1
  have c0 : w.cell? ⟨RD, 0, none⟩ = some (.slice a n c) := h.cell 0
  have c1 : w.cell? ⟨RD, 1, none⟩ = some (.int .i64 (n : Int)) := h.cell 1
  clear h hg
  go_enter Tryz.func138, Tryz.ntmps138
  go_wp2
  go_quiet (fail)
  go_wp2
  go_quiet (fail)
  go_wp2
  go_ret2
  exact ⟨rfl, ((Chg.refl _ w).drewN _).drewN _⟩

set_option maxRecDepth 100000 in
set_option maxHeartbeats 400000 in
theorem sticky_eof {B : Nat} {g : Nat → Addr} {w : World} {ST RD : Nat} {a : Option Addr} {n c : Nat} {p s : Value} (d : Value) (hg : Glb B g w) (hs : Blk w ST #[.iface 49 (.pointer (some ⟨RD, 0, none⟩)), s] 79) (hse : s = .nilIface ∨ s = erv (g 0)) (h : Blk w RD #[.slice a n c, .int .i64 (n : Int), p] 83) (hn : n ≤ 100000) (hne : RD ≠ ST) :
    Calls Tryz.prog 142 #[.pointer (some ⟨ST, 0, none⟩), d] w fun e w' => e = .returned (.tuple #[.int .i64 0, erv (g 0)]) ∧ Chg [ST] w w' ∧ Blk w' ST #[.iface 49 (.pointer (some ⟨RD, 0, none⟩)), erv (g 0)] 79 := by
  have c0 : w.cell? ⟨ST, 0, none⟩ = some (.iface 49 (.pointer (some ⟨RD, 0, none⟩))) := hs.cell 0
  have c1 : w.cell? ⟨ST, 1, none⟩ = some s := hs.cell 1
  have hc := bytesRead_eof d hg h hn
  have HS := Lib.hid hs
  clear hs h hg
  rcases hse with rfl | rfl
  · go_enter Tryz.func142, Tryz.ntmps142
    go_wp2_with fail
    refine hc.mono ?_
    rintro e w1 ⟨rfl, hch⟩
    have hb1 := HS.out.chg hch (by simp)
    have hf1 : w1.frozen? ⟨ST, 1, none⟩ = false := hb1.free 1
    have e1 : w1.cell? ⟨ST, 1, none⟩ = some .nilIface := hb1.cell 1
    have hb2 := hb1.set 1 (erv (g 0))
    have d1 : (w1.setCell ⟨ST, 1, none⟩ (erv (g 0))).cell? ⟨ST, 1, none⟩ = some (erv (g 0)) := hb2.cell 1
    have HH := Lib.hid (And.intro hch hb2); clear hch hb2 hb1
    go_wp2
    go_quiet (fail)
    go_wp2
    go_ret2
    refine ⟨rfl, ((HH.out.1.none).setCell (by simp) _).drewN _, ?_⟩
    exact HH.out.2.drewN _
  · go_enter Tryz.func142, Tryz.ntmps142
    go_wp2
    go_quiet (fail)
    go_wp2
    go_ret2
    exact ⟨rfl, (Chg.refl _ w).drewN _, HS.out.drewN _⟩
end Go.Proofs.YtekndndhgkdggaaGreatDoor

namespace Go.Proofs.YtekndndhgkdggaaGreatDoor
open Go.RowKit

theorem bv_ones (l : Bs) : ∀ v ∈ l.map bv, v.oneCell' = true := by
  intro v hv; obtain ⟨c, _, rfl⟩ := List.mem_map.1 hv; rfl

/-- bytes copied onto a row of cells known whole -/
theorem copy_to (W : World) (ty : TypeId) (g o dLen dCap : Nat) (cs : Array Value) (T : TypeId) (a : Option Addr) (sLen sCap : Nat) (l : Bs) (hb : Blk W g cs T)
    (hl : l.length = min sLen dLen) (hsrc : ∀ j, j < l.length → ∃ b p, a = some ⟨b, p, none⟩ ∧ W.cell? ⟨b, p + j, none⟩ = some (bv (l.getD j 0))) (hfit : o + l.length ≤ cs.size) :
    ∃ w2 cs2, (Builtin.copy_ #[22, 22] ty #[.slice (some ⟨g, o, none⟩) dLen dCap, .slice a sLen sCap]).run Tryz.prog W = .ok (.int .i64 (l.length : Int)) w2 ∧ Chg [g] W w2 ∧ Blk w2 g cs2 T ∧ cs2.size = cs.size ∧
      (∀ i, i < l.length → cs2[o + i]? = some (bv (l.getD i 0))) ∧ (∀ i, i < o ∨ o + l.length ≤ i → cs2[i]? = cs[i]?) := by
  by_cases h0 : l = []
  · subst h0
    exact ⟨_, cs, run_copy_zero W 22 22 ty 5 _ _ _ _ _ _ (by kernel_rfl) (by kernel_rfl) hl.symm, Chg.refl _ _, hb, rfl, fun i hi => absurd hi (Nat.not_lt_zero _), fun _ _ => rfl⟩
  · obtain ⟨b, p, rfl, _⟩ := hsrc 0 (List.length_pos_iff.2 h0)
    have hrun := run_copy_row_k (P := Tryz.prog) W 22 22 ty 5 1 g o dLen dCap ⟨b, p, none⟩ sLen sCap cs T (l.map bv) (by kernel_rfl) (by kernel_rfl) hb (by rw [List.length_map, hl, Nat.mul_one])
      (fun j v hj => by
        have hjl : j < l.length := by
          rcases Nat.lt_or_ge j l.length with h | h
          · exact h
          · rw [List.getElem?_eq_none (by simpa using h)] at hj; cases hj
        obtain ⟨b', p', he, hc⟩ := hsrc j hjl
        cases he
        rw [Addr.add_at, hc]
        simp [List.getElem?_eq_getElem hjl] at hj
        simp [List.getD, List.getElem?_eq_getElem hjl, ← hj])
      (by rw [List.length_map]; exact hfit) (bv_ones l)
    rw [List.length_map] at hrun
    have hm : Nat.min sLen dLen = l.length := hl.symm
    rw [hm] at hrun
    refine ⟨_, _, hrun, (Chg.refl _ _).setRow (by simp) _, setRow_heap W g cs _ T _ hb, ?_, ?_, ?_⟩
    · simp; omega
    · intro i hi
      rw [List.getElem?_toArray, List.append_assoc, List.getElem?_append_right (by simp; omega)]
      simp only [List.length_take, Array.length_toList]
      rw [show o + i - min o cs.size = i from by omega, List.getElem?_append_left (by simpa using hi)]
      simp [List.getD, List.getElem?_eq_getElem hi]
    · intro i hi
      rw [List.getElem?_toArray]
      rcases hi with hi | hi
      · rw [List.append_assoc, List.getElem?_append_left (by simp; omega), List.getElem?_take_of_lt hi, Array.getElem?_toList]
      · have e1 : (cs.toList.take o ++ l.map bv).length = o + l.length := by simp; omega
        rw [List.getElem?_append_right (by omega), List.getElem?_drop, e1, show o + l.length + (i - (o + l.length)) = i from by omega, Array.getElem?_toList]

set_option maxRecDepth 100000 in
theorem InS.draw {B : Nat} {g : Nat → Addr} {h : Hs} {w w' : World} {r : Nat} {rem : Bs} {e : Value} {lb lr : Int} (hs : InS B g h w r rem e lb lr) {S : List Nat} (hc : Chg S w w') (hd : ∀ x, x ∈ S → B ≤ x ∧ x ∉ h.all) : InS B g h w' r rem e lb lr := by
  have hn : ∀ y, y ∈ h.all → y ∉ S := fun y hy hm => (hd y hm).2 hy
  have m1 : h.RD ∈ h.all := .head _
  have m2 : h.ST ∈ h.all := .tail _ (.head _)
  have m3 : h.BR ∈ h.all := .tail _ (.tail _ (.head _))
  have m4 : h.U ∈ h.all := .tail _ (.tail _ (.tail _ (.head _)))
  have h1 := hs.gl.chg hc (fun x hx => (hd x hx).1)
  have h2 := hs.br.chg hc (hn _ m3)
  have h3 : ∃ s, Blk w' h.ST #[.iface 49 (.pointer (some ⟨h.RD, 0, none⟩)), s] 79 ∧ (s = .nilIface ∨ s = erv (g 0)) := hs.st.imp fun s k => ⟨k.1.chg hc (hn _ m2), k.2⟩
  have h4 : ∃ a n c p, Blk w' h.RD #[.slice a n c, .int .i64 (n : Int), p] 83 ∧ n ≤ 3000 := hs.rd.imp fun a k => k.imp fun n k => k.imp fun c k => k.imp fun p k => ⟨k.1.chg hc (hn _ m1), k.2⟩
  have h5 : ∃ cs T, Blk w' h.U cs T ∧ cs.size = 4096 ∧ ∀ i, i < rem.length → cs[r + i]? = some (bv (rem.getD i 0)) := hs.u.imp fun cs k => k.imp fun T k => ⟨k.1.chg hc (hn _ m4), k.2⟩
  exact ⟨h1, hs.ok, h2, h3, h4, h5, hs.lt⟩

theorem br_cells {w : World} {h : Hs} {r x : Nat} {e : Value} {lb lr : Int} (hb : Blk w h.BR (brc h r x e lb lr) 98) :
    w.cell? ⟨h.BR, 0, none⟩ = some (.slice (some ⟨h.U, 0, none⟩) 4096 4096) ∧ w.cell? ⟨h.BR, 1, none⟩ = some (.iface 77 (.pointer (some ⟨h.ST, 0, none⟩))) ∧ w.cell? ⟨h.BR, 2, none⟩ = some (.int .i64 (r : Int)) ∧
    w.cell? ⟨h.BR, 3, none⟩ = some (.int .i64 (x : Int)) ∧ w.cell? ⟨h.BR, 4, none⟩ = some e ∧ w.cell? ⟨h.BR, 5, none⟩ = some (.int .i64 lb) ∧ w.cell? ⟨h.BR, 6, none⟩ = some (.int .i64 lr) ∧
    w.frozen? ⟨h.BR, 2, none⟩ = false ∧ w.frozen? ⟨h.BR, 3, none⟩ = false ∧ w.frozen? ⟨h.BR, 4, none⟩ = false ∧ w.frozen? ⟨h.BR, 5, none⟩ = false ∧ w.frozen? ⟨h.BR, 6, none⟩ = false :=
  ⟨hb.cell 0, hb.cell 1, hb.cell 2, hb.cell 3, hb.cell 4, hb.cell 5, hb.cell 6, hb.free 2, hb.free 3, hb.free 4, hb.free 5, hb.free 6⟩

set_option maxRecDepth 100000 in
theorem InS.slid {B : Nat} {g : Nat → Addr} {h : Hs} {w w2 : World} {r : Nat} {rem : Bs} {e : Value} {lb lr : Int} (hs : InS B g h w r rem e lb lr) {cs2 : Array Value} {T : TypeId} (hc : Chg [h.BR, h.U] w w2) (hu : Blk w2 h.U cs2 T) (hsz : cs2.size = 4096)
    (hin : ∀ i, i < rem.length → cs2[0 + i]? = some (bv (rem.getD i 0))) (hb : Blk w2 h.BR (brc h 0 rem.length e lb lr) 98) : InS B g h w2 0 rem e lb lr := by
  have ho := hs.ok
  have n1 : h.RD ∉ [h.BR, h.U] := by have := ho.n13; have := ho.n14; simp; omega
  have n2 : h.ST ∉ [h.BR, h.U] := by have := ho.n23; have := ho.n24; simp; omega
  have h1 := hs.gl.chg hc (fun x hx => by have := ho.b3; have := ho.b4; simp at hx; omega)
  have h3 : ∃ s, Blk w2 h.ST #[.iface 49 (.pointer (some ⟨h.RD, 0, none⟩)), s] 79 ∧ (s = .nilIface ∨ s = erv (g 0)) := hs.st.imp fun s k => ⟨k.1.chg hc n2, k.2⟩
  have h4 : ∃ a n c p, Blk w2 h.RD #[.slice a n c, .int .i64 (n : Int), p] 83 ∧ n ≤ 3000 := hs.rd.imp fun a k => k.imp fun n k => k.imp fun c k => k.imp fun p k => ⟨k.1.chg hc n1, k.2⟩
  have hl := hs.lt
  exact ⟨h1, hs.ok, by rw [Nat.zero_add]; exact hb, h3, h4, ⟨cs2, T, hu, hsz, hin⟩, by omega⟩

set_option maxRecDepth 100000 in
set_option maxHeartbeats 1000000 in
theorem fill_eof {B : Nat} {g : Nat → Addr} {h : Hs} {w : World} {r : Nat} {rem : Bs} {lb lr : Int} (hs : InS B g h w r rem .nilIface lb lr) :
    Calls Tryz.prog 57 #[.pointer (some ⟨h.BR, 0, none⟩)] w fun e w' => e = .returned (.tuple #[]) ∧ Chg [h.BR, h.ST, h.U] w w' ∧ InS B g h w' 0 rem (erv (g 0)) lb lr := by
  have hx := hs.lt
  have hb := hs.br
  have ho := hs.ok
  obtain ⟨x, hxe⟩ : ∃ x, x = r + rem.length := ⟨_, rfl⟩
  rw [← hxe] at hb hx
  obtain ⟨c0, c1, c2, c3, c4, c5, c6, f2, f3, f4, _, _⟩ := br_cells hb
  have HS := Lib.hid hs
  have HB := Lib.hid hb
  clear hs hb
  go_enter Tryz.func57, Tryz.ntmps57
  go_upto_if 9 with (fail)
  go_cut [] (fun wz => InS B g h wz 0 rem .nilIface lb lr ∧ Chg [h.BR, h.U] w wz)
  case first =>
    by_cases hr : r = 0
    · have HX := Lib.hid (And.intro hxe hx); clear hxe hx
      subst hr
      go_wp2
      go_meet
      exact ⟨HS.out, Chg.refl _ _⟩
    · obtain ⟨cs, T, hu, hsz, hu2⟩ := HS.out.u
      have hlU := hu.lt
      obtain ⟨w2, cs2, hcopy, hch, hb2, hs2, hin, _⟩ := copy_to w.drew 3 h.U 0 4096 4096 cs T (subA (some ⟨h.U, 0, none⟩) 4096 r) (x - r) (4096 - r) rem hu.drew (by omega)
        (fun j hj => ⟨h.U, r, by rw [subA_some _ _ _ _ (by omega)]; simp, by rw [hu.drew.cell]; exact hu2 j hj⟩) (by omega)
      have hbr2 : Blk w2 h.BR (brc h r x .nilIface lb lr) 98 := HB.out.drew.chg hch (by have := ho.n34; simp; omega)
      obtain ⟨d0, d1, d2, d3, d4, d5, d6, e2, e3, e4, _, _⟩ := br_cells hbr2
      have hbr3 := (hbr2.drew.set 3 (.int .i64 (rem.length : Int))).set 2 (.int .i64 0)
      have HU := Lib.hid (And.intro hch (And.intro hb2 (And.intro hs2 (And.intro hin hbr3)))); clear hch hb2 hs2 hin hu hu2 hbr2 hbr3
      have sl := fun wy => slice22_lh (some ⟨h.U, 0, none⟩) 4096 4096 .i64 .i64 (r : Int) (x : Int) (by omega) (by omega) (by omega) wy
      simp only [Int.toNat_natCast] at sl
      generalize Value.slice (subA (some ⟨h.U, 0, none⟩) 4096 r) (x - r) (4096 - r) = V at sl hcopy
      have hr0 : decide ((r : Int) > 0) = true := by simp; omega
      have hwr : IntKind.i64.wrap ((x : Int) - (r : Int)) = (rem.length : Int) := by rw [IntWalk.i64_in _ (by omega)]; omega
      have HX := Lib.hid (And.intro hxe (And.intro hsz hx)); clear hxe hsz hx
      go_wp2
      go_still_tail 17, (by kernel_rfl)
      change wpList _ _ _ _ _ w.drew
      go_wp2
      go_still_tail 11, (by kernel_rfl)
      change wpList _ _ _ _ _ w2.drew
      go_wp2
      go_meet
      obtain ⟨hch, hb2, hs2, hin, hbr3⟩ := HU.out
      have hcf : Chg [h.BR, h.U] w ((w2.drew.setCell ⟨h.BR, 3, none⟩ (.int .i64 (rem.length : Int))).setCell ⟨h.BR, 2, none⟩ (.int .i64 0)) :=
        ((((Chg.refl _ w).drew.trans (hch.mono (by simp))).drew).setCell (.inl (by simp)) _).setCell (.inl (by simp)) _
      have hne : h.U ≠ h.BR := Ne.symm ho.n34
      exact ⟨HS.out.slid hcf (((hb2.drew).set_ne (by exact hne) _).set_ne (by exact hne) _) (by rw [hs2]; exact HX.out.2.1) hin hbr3, hcf⟩
  case rest =>
    obtain ⟨hin, hch⟩ := hcut
    have hl := hin.lt
    clear c0 c1 c2 c3 c4 c5 c6 f2 f3 f4 HB HS hx hxe
    obtain ⟨c0, c1, c2, c3, c4, c5, c6, f2, f3, f4, _, _⟩ := br_cells hin.br
    rw [Nat.zero_add] at c3 hl
    obtain ⟨s, hst, hse⟩ := hin.st
    obtain ⟨a, n, c, p, hrd, hn3⟩ := hin.rd
    have hn : n ≤ 100000 := by omega
    have hstk := fun (k : Nat) d => sticky_eof (w := wc.drewN k) d (hin.gl.chg ((Chg.refl [] wc).drewN k) (by simp)) (hst.drewN k) hse (hrd.drewN k) hn ho.n12
    have HS := Lib.hid (And.intro hin (And.intro hch (And.intro hst hrd))); clear hin hch hst hrd hse
    have sl := fun wy => slice22_l (some ⟨h.U, 0, none⟩) 4096 4096 .i64 (rem.length : Int) (by omega) (by omega) wy
    simp only [Int.toNat_natCast] at sl
    generalize Value.slice (subA (some ⟨h.U, 0, none⟩) 4096 rem.length) (4096 - rem.length) (4096 - rem.length) = V at sl
    have hge : decide ((rem.length : Int) ≥ 4096) = false := by simp; omega
    go_wp2
    go_quiet (fail)
    go_wp2
    refine wp_loop_rounds 1 ?_; rw [rounds_succ]
    go_wp2
    have hbd := HS.out.1.br.drewN nq
    obtain ⟨k0, k1, k2, k3, _, _, _, _, _, _, _, _⟩ := br_cells hbd
    rw [Nat.zero_add] at k3
    have hs2 : ∀ d, Calls Tryz.prog 142 #[.pointer (some ⟨h.ST, 0, none⟩), d] (wc.drewN nq).drew fun e w' => e = .returned (.tuple #[.int .i64 0, erv (g 0)]) ∧ Chg [h.ST] (wc.drewN nq).drew w' ∧ Blk w' h.ST #[.iface 49 (.pointer (some ⟨h.RD, 0, none⟩)), erv (g 0)] 79 := fun d => hstk (nq + 1) d
    clear hstk
    have hcd : Chg [] wc (wc.drewN nq) := (Chg.refl _ _).drewN nq
    have HBD := Lib.hid (And.intro hbd hcd); clear hbd hcd c0 c1 c2 c3 c4 c5 c6 f2 f3 f4
    generalize wc.drewN nq = wd at *
    go_region_held3 (fun w' => w'.cell? ⟨h.BR, 0, none⟩ = some (.slice (some ⟨h.U, 0, none⟩) 4096 4096) ∧ w'.cell? ⟨h.BR, 1, none⟩ = some (.iface 77 (.pointer (some ⟨h.ST, 0, none⟩))) ∧ w'.cell? ⟨h.BR, 3, none⟩ = some (.int .i64 (rem.length : Int))) (first | exact ⟨k0, k1, k3⟩ | exact ⟨d0, d1, d3⟩ | go_keep)
      (first | (go_at_call 142; refine (hs2 V).mono ?_; rintro e w3 ⟨rfl, hc3, hst3⟩; have hbr3 : Blk w3 h.BR (brc h 0 (0 + rem.length) .nilIface lb lr) 98 := HBD.out.1.drew.chg hc3 (by have := ho.n23; simp; omega); obtain ⟨d0, d1, d2, d3, d4, d5, d6, e2, e3, e4, _, _⟩ := br_cells hbr3; rw [Nat.zero_add] at d3; have H3 := Lib.hid (And.intro hc3 (And.intro hst3 hbr3)); clear hc3 hst3 hbr3))
    go_wp2
    go_returns
    obtain ⟨hc3, hst3, hbr3⟩ := H3.out
    obtain ⟨hin, hch, hst, hrd⟩ := HS.out
    obtain ⟨cs, T, hu, hsz, hu2⟩ := hin.u
    have hcw : Chg [h.ST] wc w3 := (HBD.out.2.drew.none).trans hc3
    have hne : h.ST ∉ [h.BR, h.U] := by have := ho.n23; have := ho.n24; simp; omega
    have hcf : Chg [h.BR, h.ST, h.U] w ((w3.setCell ⟨h.BR, 3, none⟩ (.int .i64 (rem.length : Int))).setCell ⟨h.BR, 4, none⟩ (erv (g 0))) :=
      (((hch.mono (by simp)).trans (hcw.mono (by simp))).setCell (.inl (by simp)) _).setCell (.inl (by simp)) _
    refine ⟨rfl, hcf, ?_⟩
    have hc2 : Chg [h.BR, h.ST] wc ((w3.setCell ⟨h.BR, 3, none⟩ (.int .i64 (rem.length : Int))).setCell ⟨h.BR, 4, none⟩ (erv (g 0))) :=
      ((hcw.mono (by simp)).setCell (.inl (by simp)) _).setCell (.inl (by simp)) _
    have n1 : h.RD ∉ [h.BR, h.ST] := by have := ho.n13; have := ho.n12; simp; omega
    have n4 : h.U ∉ [h.BR, h.ST] := by have := ho.n34; have := ho.n24; simp; omega
    have hs3 := (hst3.set_ne (p := ⟨h.BR, 3, none⟩) (by exact ho.n23) (.int .i64 (rem.length : Int))).set_ne (p := ⟨h.BR, 4, none⟩) (by exact ho.n23) (erv (g 0))
    have hb4 := (hbr3.set 3 (.int .i64 (rem.length : Int))).set 4 (erv (g 0))
    refine ⟨hin.gl.chg hc2 (fun y hy => by have := ho.b3; have := ho.b2; simp at hy; omega), ho, ?_, ⟨_, hs3, .inr rfl⟩, ⟨a, n, c, p, hrd.chg hc2 n1, hn3⟩, ⟨cs, T, hu.chg hc2 n4, hsz, hu2⟩, by omega⟩
    rw [Nat.zero_add]; rw [Nat.zero_add] at hb4; exact hb4
end Go.Proofs.YtekndndhgkdggaaGreatDoor

namespace Go.Proofs.YtekndndhgkdggaaGreatDoor
open Go.RowKit

/-- the place of the first byte c, or -1 -/
def idxB (c : UInt8) : Bs → Int
  | [] => -1
  | d :: l => if d = c then 0 else if idxB c l = -1 then -1 else idxB c l + 1

theorem idxB_lib (c : UInt8) (l : Bs) : Lib.indexByte l c = idxB c l := by
  induction l with
  | nil => rfl
  | cons d l ih => unfold Lib.indexByte idxB; rw [ih]; simp

theorem idxB_ge (c : UInt8) (l : Bs) : -1 ≤ idxB c l ∧ idxB c l < l.length := by
  induction l with
  | nil => simp [idxB]
  | cons d l ih => unfold idxB; simp only [List.length_cons]; split <;> (try split) <;> omega

theorem bytesOf_map (l : Bs) : Lib.bytesOf (l.map fun c => (c.toNat : Int)) = l := by
  induction l with
  | nil => rfl
  | cons d l ih => simp only [Lib.bytesOf, List.map_cons, List.map_map] at *; simp [ih]

set_option maxRecDepth 100000 in
set_option maxHeartbeats 400000 in
theorem indexByte_any {S : List Nat} {w : World} {v : Value} {l : Bs} (c : UInt8) (h : BS S w v l) :
    Calls Tryz.prog 54 #[v, bv c] w fun e w' => e = .returned (.int .i64 (idxB c l)) ∧ w = w' := by
  obtain ⟨a, cp, rfl, hlc, h⟩ := h
  have hx : (Extern.BytealgIndexByte.indexByte #[.slice a l.length cp, bv c]).run Tryz.prog w = .ok (.int .i64 (idxB c l)) w := by
    rcases h with ⟨rfl, rfl, rfl⟩ | ⟨b, o, rfl, hb, hs⟩
    · kernel_rfl
    · have := Lib.run_indexByteAt (P := Tryz.prog) (w := w) ⟨b, o, none⟩ l.length cp (l.map fun c => (c.toNat : Int)) (by simp) (fun i hi => by
        rw [Addr.add_at, hs.cell i hi]; simp [List.getD, List.getElem?_eq_getElem hi]) (c.toNat : Int)
      rw [bytesOf_map, idxB_lib] at this
      simpa using this
  clear h
  go_enter Tryz.func54, Tryz.ntmps54
  go_wp2
  rw [run_callFunc_extern (show Tryz.prog.funcs[76]? = some Tryz.f76 from by kernel_rfl) (by kernel_rfl) (by kernel_rfl) (by kernel_rfl) (e := Extern.BytealgIndexByte.indexByte) (by kernel_rfl), hx]
  simp only [Result.andThen]
  rw [Oper.upon_value]
  go_wp2
  go_ret
  exact ⟨rfl, rfl⟩

set_option maxRecDepth 100000 in
set_option maxHeartbeats 400000 in
theorem equal_any {S S' : List Nat} {w : World} {v v' : Value} {l m : Bs} (h : BS S w v l) (h' : BS S' w v' m) :
    Calls Tryz.prog 20 #[v, v'] w fun e w' => e = .returned (.bool (l == m)) ∧ w = w' := by
  have c1 := conv22_9 h
  have c2 := conv22_9 h'
  clear h h'
  go_enter Tryz.func20, Tryz.ntmps20
  go_wp2
  go_ret
  exact ⟨rfl, rfl⟩

set_option maxRecDepth 100000 in
set_option maxHeartbeats 400000 in
theorem hasPrefix_any {S S' : List Nat} {w : World} {v v' : Value} {l p : Bs} (h : BS S w v l) (h' : BS S' w v' p) (_hl : l.length ≤ 100000) (hp : p.length ≤ 100000) :
    Calls Tryz.prog 58 #[v, v'] w fun e w' => e = .returned (.bool (begB l p)) ∧ w = w' := by
  obtain ⟨a, c, rfl, hlc, _⟩ := id h
  obtain ⟨a', c', rfl, hlc', _⟩ := id h'
  by_cases hle : p.length ≤ l.length
  · have he := equal_any (h.take p.length hle) h'
    rw [← begB_eq l p]
    have hcap : (p.length : Int) ≤ c := by omega
    have hsl := slice22_h a l.length c .i64 p.length (by omega) hcap w
    rw [Int.toNat_natCast] at hsl
    have hge : decide ((l.length : Int) ≥ (p.length : Int)) = true := by simp; omega
    have H := Lib.hid (And.intro h h'); clear h h'
    go_enter Tryz.func58, Tryz.ntmps58
    go_wp2_with fail
    refine he.mono ?_
    rintro e w' ⟨rfl, rfl⟩
    go_wp2
    go_ret
    exact ⟨rfl, rfl⟩
  · rw [begB_short l p (by omega)]
    have hge : decide ((l.length : Int) ≥ (p.length : Int)) = false := by simp; omega
    clear h h'
    go_enter Tryz.func58, Tryz.ntmps58
    go_wp2
    go_ret
    exact ⟨rfl, rfl⟩

set_option maxRecDepth 100000 in
set_option maxHeartbeats 1000000 in
theorem skip_any {S : List Nat} {w : World} {v : Value} {l : Bs} (h : BS S w v l) (hl : l.length ≤ 100000) :
    Calls Tryz.prog 59 #[v] w fun e w' => (∃ u, e = .returned u ∧ BS S w u (dropBl l)) ∧ w = w' := by
  obtain ⟨a, c, rfl, hlc, _⟩ := id h
  have H := Lib.hid h; clear h
  go_enter Tryz.func59, Tryz.ntmps59
  go_wp2
  go_loop [0] (fun v => ∃ m, BS S w v m ∧ m.length ≤ 100000 ∧ Hid (dropBl m = dropBl l)) (fun v => lenV v)
  case atStart => exact ⟨l, H.out, hl, rfl⟩
  case round =>
    obtain ⟨m, hm, hml, hmq⟩ := hrel
    obtain ⟨a1, c1, rfl, hc1, _⟩ := id hm
    cases m with
    | nil =>
      simp only [List.length_nil] at *
      go_wp2
      go_ret
      exact ⟨⟨_, rfl, by rw [← hmq.out]; exact hm⟩, rfl⟩
    | cons d r =>
      obtain ⟨_, _, b, o, rfl, hcell, hr⟩ := hm.cons
      have hr := Lib.hid hr
      have hm := Lib.hid hm
      simp only [List.length_cons] at *
      have hsl : (Instr.slice 22 (.slice (some ⟨b, o, none⟩) (r.length + 1) c1) (some (.int .i64 1)) none none).run Tryz.prog w = .ok (.slice (subA (some ⟨b, o, none⟩) c1 1) r.length (c1 - 1)) w := slice22_l (some ⟨b, o, none⟩) (r.length + 1) c1 .i64 1 (by omega) (by omega) w
      by_cases h32 : d = 32
      · have hbl : dropBl (d :: r) = dropBl r := by rw [dropBl_cons, h32]; rfl
        have hq := hmq.out; rw [hbl] at hq; have hq := Lib.hid hq; clear hmq hbl
        subst h32
        go_wp2
        go_round
        case measure => simp [lenV]
        case rel => exact ⟨r, hr.out, by omega, hq⟩
      · have hn32 : ((d.toNat : Int) == 32) = false := bv_ne 32 _ rfl h32
        by_cases h9 : d = 9
        · have hbl : dropBl (d :: r) = dropBl r := by rw [dropBl_cons, h9]; rfl
          have hq := hmq.out; rw [hbl] at hq; have hq := Lib.hid hq; clear hmq hbl h32 hn32
          subst h9
          go_wp2
          go_round
          case measure => simp [lenV]
          case rel => exact ⟨r, hr.out, by omega, hq⟩
        · have hn9 : ((d.toNat : Int) == 9) = false := bv_ne 9 _ rfl h9
          have hbl : dropBl (d :: r) = d :: r := by rw [dropBl_cons]; simp [blankB, h32, h9]
          have hq := hmq.out; rw [hbl] at hq; have hq := Lib.hid hq; clear hmq hbl h32 h9
          go_wp2
          go_ret
          exact ⟨⟨_, rfl, by rw [← hq.out]; exact hm.out⟩, rfl⟩
end Go.Proofs.YtekndndhgkdggaaGreatDoor

namespace Go.Proofs.YtekndndhgkdggaaGreatDoor
open Go.RowKit

/-- Nothing has been read yet: the buffer is empty, all the bytes lie ahead. -/
structure Fresh (B : Nat) (g : Nat → Addr) (h : Hs) (w : World) (body : Bs) (lb lr : Int) : Prop where
  gl : Glb B g w
  ok : h.ok B
  br : Blk w h.BR (brc h 0 0 .nilIface lb lr) 98
  st : Blk w h.ST #[.iface 49 (.pointer (some ⟨h.RD, 0, none⟩)), .nilIface] 79
  rd : ∃ a c p, Blk w h.RD #[.slice a body.length c, .int .i64 0, p] 83 ∧ BS h.all w (.slice a body.length c) body
  u : ∃ cs T, Blk w h.U cs T ∧ cs.size = 4096
  lt : body.length ≤ 3000

set_option maxRecDepth 100000 in
set_option maxHeartbeats 400000 in
theorem bytesRead_all {w : World} {RD U : Nat} {a : Option Addr} {c : Nat} {p : Value} {body : Bs} {cs : Array Value} {T : TypeId} {S : List Nat}
    (h : Blk w RD #[.slice a body.length c, .int .i64 0, p] 83) (hv : BS S w (.slice a body.length c) body) (hS : RD ∈ S ∧ U ∈ S) (hu : Blk w U cs T) (hsz : cs.size = 4096) (hl : body.length ≤ 3000) (h0 : body ≠ []) (hne : RD ≠ U) :
    Calls Tryz.prog 138 #[.pointer (some ⟨RD, 0, none⟩), .slice (some ⟨U, 0, none⟩) 4096 4096] w fun e w' => e = .returned (.tuple #[.int .i64 (body.length : Int), .nilIface]) ∧ Chg [RD, U] w w' ∧
      Blk w' RD #[.slice a body.length c, .int .i64 (body.length : Int), .int .i64 (-1)] 83 ∧ ∃ cs', Blk w' U cs' T ∧ cs'.size = 4096 ∧ ∀ i, i < body.length → cs'[0 + i]? = some (bv (body.getD i 0)) := by
  obtain ⟨n, hn⟩ : ∃ n, n = body.length := ⟨_, rfl⟩
  have hn0 : 0 < n := by rw [hn]; exact List.length_pos_iff.2 h0
  obtain ⟨b, o, ha, hbS, hseg⟩ := hv.at_ (by omega)
  have hcap := hv.len.2
  rw [← hn] at h hcap hl
  subst ha
  have c0 : w.cell? ⟨RD, 0, none⟩ = some (.slice (some ⟨b, o, none⟩) n c) := h.cell 0
  have c1 : w.cell? ⟨RD, 1, none⟩ = some (.int .i64 0) := h.cell 1
  have c2 : w.cell? ⟨RD, 2, none⟩ = some p := h.cell 2
  have f2 : w.frozen? ⟨RD, 2, none⟩ = false := h.free 2
  have hge : decide ((0 : Int) ≥ (n : Int)) = false := by simp; omega
  have H := Lib.hid (And.intro h (And.intro hseg (And.intro hu hsz))); clear h hv hseg hu hsz
  have HN := Lib.hid hn; clear hn
  go_enter Tryz.func138, Tryz.ntmps138
  go_wp2
  go_quiet (fail)
  go_wp2
  have hwd : ∃ wd, wd = (w.drewN nq).setCell ⟨RD, 2, none⟩ (.int .i64 (-1)) := ⟨_, rfl⟩
  obtain ⟨wd, hwd⟩ := hwd
  rw [← hwd]
  have hbd : Blk wd RD #[.slice (some ⟨b, o, none⟩) n c, .int .i64 0, .int .i64 (-1)] 83 := by rw [hwd]; exact (H.out.1.drewN nq).set 2 _
  have hud : Blk wd U cs T := by rw [hwd]; exact (H.out.2.2.1.drewN nq).set_ne (by exact Ne.symm hne) _
  have hcd : Chg [RD] w wd := by rw [hwd]; exact ((Chg.refl _ w).drewN nq).setCell (.inl (by simp)) _
  have hsd : Seg wd b o body := H.out.2.1.chg hcd (by simp; exact fun e => hbS (e ▸ hS.1))
  obtain ⟨w2, cs2, hcopy, hch, hb2, hs2, hin, _⟩ := copy_to wd.drew 3 U 0 4096 4096 cs T (some ⟨b, o, none⟩) n c body hud.drew (by rw [← HN.out]; omega)
    (fun j hj => ⟨b, o, rfl, hsd.cell j hj⟩) (by rw [H.out.2.2.2, ← HN.out]; omega)
  rw [← HN.out] at hcopy
  have hbr2 : Blk w2 RD #[.slice (some ⟨b, o, none⟩) n c, .int .i64 0, .int .i64 (-1)] 83 := hbd.drew.chg hch (by simpa using hne)
  have d0 : wd.cell? ⟨RD, 0, none⟩ = some (.slice (some ⟨b, o, none⟩) n c) := hbd.cell 0
  have d1 : wd.cell? ⟨RD, 1, none⟩ = some (.int .i64 0) := hbd.cell 1
  have e1 : w2.cell? ⟨RD, 1, none⟩ = some (.int .i64 0) := hbr2.cell 1
  have e2 : w2.frozen? ⟨RD, 1, none⟩ = false := hbr2.free 1
  have hbr3 := hbr2.set 1 (.int .i64 (n : Int))
  have H2 := Lib.hid (And.intro hcd (And.intro hch (And.intro hb2 (And.intro hs2 (And.intro hin (And.intro hbr3 hwd)))))); clear hcd hch hb2 hs2 hin hbr3 hbr2 hbd hud hsd hwd c0 c1 c2 f2
  have sl : ∀ wy, (Instr.slice 22 (.slice (some ⟨b, o, none⟩) n c) (some (.int .i64 0)) none none).run Tryz.prog wy = .ok (.slice (some ⟨b, o, none⟩) n c) wy := fun wy => by
    rw [slice22_l _ _ _ _ _ (by omega) (by omega) wy]; simp [subA_zero]
  go_still_tail 10, (by kernel_rfl)
  change wpList _ _ _ _ _ wd.drew
  go_wp2
  go_ret2
  obtain ⟨hcd, hch, hb2, hs2, hin, hbr3, hwd⟩ := H2.out
  rw [← HN.out]
  rw [← HN.out] at hin
  have hcf : Chg [RD, U] w (w2.setCell ⟨RD, 1, none⟩ (.int .i64 (n : Int))) := ((((hcd.mono (by simp)).drew).trans (hch.mono (by simp))).setCell (.inl (by simp)) _)
  exact ⟨rfl, hcf, hbr3, cs2, hb2.set_ne (by exact Ne.symm hne) _, by rw [hs2]; exact H.out.2.2.2, hin⟩

set_option maxRecDepth 100000 in
set_option maxHeartbeats 400000 in
theorem sticky_all {w : World} {RD ST U : Nat} {a : Option Addr} {c : Nat} {p : Value} {body : Bs} {cs : Array Value} {T : TypeId} {S : List Nat} (hs : Blk w ST #[.iface 49 (.pointer (some ⟨RD, 0, none⟩)), .nilIface] 79)
    (h : Blk w RD #[.slice a body.length c, .int .i64 0, p] 83) (hv : BS S w (.slice a body.length c) body) (hS : RD ∈ S ∧ U ∈ S) (hu : Blk w U cs T) (hsz : cs.size = 4096) (hl : body.length ≤ 3000) (h0 : body ≠ []) (hne : RD ≠ U) (hsr : ST ≠ RD ∧ ST ≠ U) :
    Calls Tryz.prog 142 #[.pointer (some ⟨ST, 0, none⟩), .slice (some ⟨U, 0, none⟩) 4096 4096] w fun e w' => e = .returned (.tuple #[.int .i64 (body.length : Int), .nilIface]) ∧ Chg [RD, U, ST] w w' ∧ Blk w' ST #[.iface 49 (.pointer (some ⟨RD, 0, none⟩)), .nilIface] 79 ∧
      Blk w' RD #[.slice a body.length c, .int .i64 (body.length : Int), .int .i64 (-1)] 83 ∧ ∃ cs', Blk w' U cs' T ∧ cs'.size = 4096 ∧ ∀ i, i < body.length → cs'[0 + i]? = some (bv (body.getD i 0)) := by
  have c0 : w.cell? ⟨ST, 0, none⟩ = some (.iface 49 (.pointer (some ⟨RD, 0, none⟩))) := hs.cell 0
  have c1 : w.cell? ⟨ST, 1, none⟩ = some .nilIface := hs.cell 1
  have hc := bytesRead_all h hv hS hu hsz hl h0 hne
  have HS := Lib.hid hs
  clear hs h hv hu hsz hl h0
  go_enter Tryz.func142, Tryz.ntmps142
  go_wp2_with fail
  refine hc.mono ?_
  rintro e w1 ⟨rfl, hch, hrd, hu⟩
  have hb1 := HS.out.chg hch (by simp; exact hsr)
  have hf1 : w1.frozen? ⟨ST, 1, none⟩ = false := hb1.free 1
  have e1 : w1.cell? ⟨ST, 1, none⟩ = some .nilIface := hb1.cell 1
  have hb2 := hb1.set 1 .nilIface
  have d1 : (w1.setCell ⟨ST, 1, none⟩ .nilIface).cell? ⟨ST, 1, none⟩ = some .nilIface := hb2.cell 1
  have HH := Lib.hid (And.intro hch (And.intro hb2 (And.intro hrd hu))); clear hch hb2 hb1 hrd hu
  go_wp2
  go_quiet (fail)
  go_wp2
  go_ret2
  obtain ⟨hch, hb2, hrd, cs', hu, hsz, hin⟩ := HH.out
  exact ⟨rfl, ((hch.mono (by simp)).setCell (.inl (by simp)) _).drewN _, hb2.drewN _, (hrd.set_ne (by exact Ne.symm hsr.1) _).drewN _, cs', (hu.set_ne (by exact Ne.symm hsr.2) _).drewN _, hsz, hin⟩

set_option maxRecDepth 100000 in
theorem Fresh.nil {B : Nat} {g : Nat → Addr} {h : Hs} {w : World} {lb lr : Int} (hs : Fresh B g h w [] lb lr) : InS B g h w 0 [] .nilIface lb lr := by
  have h4 : ∃ a n c p, Blk w h.RD #[.slice a n c, .int .i64 (n : Int), p] 83 ∧ n ≤ 3000 := hs.rd.imp fun a k => ⟨0, k.imp fun c k => k.imp fun p k => ⟨k.1, Nat.zero_le _⟩⟩
  exact ⟨hs.gl, hs.ok, hs.br, ⟨_, hs.st, .inl rfl⟩, h4, hs.u.imp fun cs k => k.imp fun T k => ⟨k.1, k.2, fun i hi => absurd hi (Nat.not_lt_zero _)⟩, Nat.zero_le _⟩

set_option maxRecDepth 100000 in
set_option maxHeartbeats 1000000 in
theorem fill_first {B : Nat} {g : Nat → Addr} {h : Hs} {w : World} {body : Bs} {lb lr : Int} (hs : Fresh B g h w body lb lr) (h0 : body ≠ []) :
    Calls Tryz.prog 57 #[.pointer (some ⟨h.BR, 0, none⟩)] w fun e w' => e = .returned (.tuple #[]) ∧ Chg h.all w w' ∧ InS B g h w' 0 body .nilIface lb lr := by
  have ho := hs.ok
  have hl := hs.lt
  have hn0 : 0 < body.length := List.length_pos_iff.2 h0
  obtain ⟨n, hn⟩ : ∃ n, n = body.length := ⟨_, rfl⟩
  obtain ⟨c0, c1, c2, c3, c4, _, _, _, _, _, _, _⟩ := br_cells hs.br
  obtain ⟨a, c, p, hrd, hv⟩ := hs.rd
  obtain ⟨cs, T, hu, hsz⟩ := hs.u
  have hst := hs.st
  have hm : h.RD ∈ h.all ∧ h.U ∈ h.all := ⟨.head _, .tail _ (.tail _ (.tail _ (.head _)))⟩
  have hstk := fun (wy : World) (hy : Chg [] w wy) => sticky_all (w := wy) (hst.chg hy (by simp)) (hrd.chg hy (by simp)) (hv.chg hy.none) hm (hu.chg hy (by simp)) hsz hl h0 ho.n14 ⟨Ne.symm ho.n12, ho.n24⟩
  have sl : ∀ wy, (Instr.slice 22 (.slice (some ⟨h.U, 0, none⟩) 4096 4096) (some (.int .i64 0)) none none).run Tryz.prog wy = .ok (.slice (some ⟨h.U, 0, none⟩) 4096 4096) wy := fun wy => by
    rw [slice22_l _ _ _ _ _ (by omega) (by omega) wy]; simp [subA_zero]
  have hnb : h.BR ∉ [h.RD, h.U, h.ST] := by have := ho.n23; have := ho.n13; have := ho.n34; simp; omega
  have HS := Lib.hid hs
  clear hs hrd hv hu hsz hst hm
  rw [← hn] at hstk hn0 hl
  have HN := Lib.hid hn; clear hn
  go_enter Tryz.func57, Tryz.ntmps57
  go_wp2
  go_quiet (fail)
  go_wp2
  refine wp_loop_rounds 1 ?_; rw [rounds_succ]
  go_wp2
  have hbd := HS.out.br.drewN nq
  obtain ⟨k0, k1, k2, k3, _, _, _, _, _, _, _, _⟩ := br_cells hbd
  have hcd : Chg [] w (w.drewN nq) := (Chg.refl _ _).drewN nq
  have HBD := Lib.hid (And.intro hbd hcd); clear hbd hcd c0 c1 c2 c3 c4
  generalize w.drewN nq = wd at *
  have hs2 := hstk wd.drew HBD.out.2.drew
  clear hstk
  go_region_held3 (fun w' => w'.cell? ⟨h.BR, 0, none⟩ = some (.slice (some ⟨h.U, 0, none⟩) 4096 4096) ∧ w'.cell? ⟨h.BR, 1, none⟩ = some (.iface 77 (.pointer (some ⟨h.ST, 0, none⟩))) ∧ w'.cell? ⟨h.BR, 3, none⟩ = some (.int .i64 0)) (first | exact ⟨k0, k1, k3⟩ | exact ⟨d0, d1, d3⟩ | go_keep)
    (first | (go_at_call 142; refine hs2.mono ?_; rintro e w3 ⟨rfl, hc3, hst3, hrd3, hu3⟩; have hbr3 : Blk w3 h.BR (brc h 0 0 .nilIface lb lr) 98 := HBD.out.1.drew.chg hc3 hnb; obtain ⟨d0, d1, d2, d3, d4, d5, d6, e2, e3, e4, _, _⟩ := br_cells hbr3; have H3 := Lib.hid (And.intro hc3 (And.intro hst3 (And.intro hbr3 (And.intro hrd3 hu3)))); clear hc3 hst3 hbr3 hrd3 hu3))
  go_wp2
  go_returns
  obtain ⟨hc3, hst3, hbr3, hrd3, cs3, hu3, hsz3, hin3⟩ := H3.out
  have hcw : Chg [h.RD, h.U, h.ST] w w3 := (HBD.out.2.drew.none).trans hc3
  have hcf : Chg h.all w (w3.setCell ⟨h.BR, 3, none⟩ (.int .i64 (n : Int))) := (hcw.mono (by unfold Hs.all; simp)).setCell (.inl (by unfold Hs.all; simp)) _
  have hb4 := hbr3.set 3 (.int .i64 (n : Int))
  refine ⟨rfl, hcf, HS.out.gl.chg hcf (fun y hy => by have := ho.b1; have := ho.b2; have := ho.b3; have := ho.b4; unfold Hs.all at hy; simp at hy; omega), ho, ?_, ⟨_, hst3.set_ne (by exact ho.n23) _, .inl rfl⟩, ?_, ⟨cs3, T, hu3.set_ne (p := ⟨h.BR, 3, none⟩) (by exact Ne.symm ho.n34) _, hsz3, by rw [← HN.out]; exact hin3⟩, by rw [← HN.out]; omega⟩
  · rw [← HN.out, Nat.zero_add]; exact hb4
  · exact ⟨a, n, c, _, hrd3.set_ne (p := ⟨h.BR, 3, none⟩) (by exact ho.n13) _, hl⟩
end Go.Proofs.YtekndndhgkdggaaGreatDoor

namespace Go.Proofs.YtekndndhgkdggaaGreatDoor
open Go.RowKit

theorem InS.rep {B : Nat} {g : Nat → Addr} {h : Hs} {w w' : World} {r r' : Nat} {rem rem' : Bs} {e e' : Value} {lb lr lb' lr' : Int} (hs : InS B g h w r rem e lb lr) (hc : Chg [h.BR] w w')
    (hb : Blk w' h.BR (brc h r' (r + rem.length) e' lb' lr') 98) (hx : r' + rem'.length = r + rem.length) (hr : ∀ i, i < rem'.length → rem'.getD i 0 = rem.getD (i + r' - r) 0) (hrr : r ≤ r') : InS B g h w' r' rem' e' lb' lr' := by
  have ho := hs.ok
  have n1 : h.RD ∉ [h.BR] := by have := ho.n13; simp; omega
  have n2 : h.ST ∉ [h.BR] := by have := ho.n23; simp; omega
  have n4 : h.U ∉ [h.BR] := by have := ho.n34; simp; omega
  have h1 := hs.gl.chg hc (fun x hx => by have := ho.b3; simp at hx; omega)
  have h3 : ∃ s, Blk w' h.ST #[.iface 49 (.pointer (some ⟨h.RD, 0, none⟩)), s] 79 ∧ (s = .nilIface ∨ s = erv (g 0)) := hs.st.imp fun s k => ⟨k.1.chg hc n2, k.2⟩
  have h4 : ∃ a n c p, Blk w' h.RD #[.slice a n c, .int .i64 (n : Int), p] 83 ∧ n ≤ 3000 := hs.rd.imp fun a k => k.imp fun n k => k.imp fun c k => k.imp fun p k => ⟨k.1.chg hc n1, k.2⟩
  obtain ⟨cs, T, hu, hsz, hin⟩ := hs.u
  have hl := hs.lt
  refine ⟨h1, ho, by rw [hx]; exact hb, h3, h4, ⟨cs, T, hu.chg hc n4, hsz, fun i hi => ?_⟩, by omega⟩
  have := hin (i + r' - r) (by omega)
  rw [show r + (i + r' - r) = r' + i from by omega] at this
  rw [this, hr i hi]

theorem InS.seg {B : Nat} {g : Nat → Addr} {h : Hs} {w : World} {r : Nat} {rem : Bs} {e : Value} {lb lr : Int} (hs : InS B g h w r rem e lb lr) : Seg w h.U r rem := by
  obtain ⟨cs, T, hu, hsz, hin⟩ := hs.u
  exact ⟨hu.lt, fun i hi => by rw [hu.cell]; exact hin i hi⟩

/-- readErr hands the error over, and forgets it. -/
theorem readErr_any {B : Nat} {g : Nat → Addr} {h : Hs} {w : World} {r : Nat} {rem : Bs} {e : Value} {lb lr : Int} (hs : InS B g h w r rem e lb lr) :
    Calls Tryz.prog 55 #[.pointer (some ⟨h.BR, 0, none⟩)] w fun en w' => en = .returned e ∧ Chg [h.BR] w w' ∧ InS B g h w' r rem .nilIface lb lr := by
  obtain ⟨x, hx⟩ : ∃ x, x = r + rem.length := ⟨_, rfl⟩
  have hb := hs.br
  rw [← hx] at hb
  obtain ⟨c0, c1, c2, c3, c4, _, _, f2, f3, f4, _, _⟩ := br_cells hb
  have hb2 := hb.set 4 .nilIface
  have H := Lib.hid (And.intro hs (And.intro hb2 hx)); clear hs hb hb2 hx
  go_enter Tryz.func55, Tryz.ntmps55
  go_wp2
  go_ret
  obtain ⟨hs, hb2, hx⟩ := H.out
  have hc : Chg [h.BR] w (w.setCell ⟨h.BR, 4, none⟩ .nilIface) := (Chg.refl _ w).setCell (.inl (by simp)) _
  refine ⟨rfl, hc, hs.rep hc (by rw [← hx]; exact hb2) rfl (fun i hi => by rw [show i + r - r = i from by omega]) (Nat.le_refl _)⟩

set_option maxRecDepth 100000 in
set_option maxHeartbeats 400000 in
/-- Buffered, of a reader whose cells are known. -/
theorem buffered_any {w : World} {h : Hs} {r x : Nat} {e : Value} {lb lr : Int} (hb : Blk w h.BR (brc h r x e lb lr) 98) (hx : r ≤ x ∧ x ≤ 4096) :
    Calls Tryz.prog 56 #[.pointer (some ⟨h.BR, 0, none⟩)] w fun en w' => en = .returned (.int .i64 ((x - r : Nat) : Int)) ∧ ∃ n, w' = w.drewN n := by
  obtain ⟨c0, c1, c2, c3, c4, _, _, f2, f3, f4, _, _⟩ := br_cells hb
  have hwr : IntKind.i64.wrap ((x : Int) - (r : Int)) = ((x - r : Nat) : Int) := by rw [IntWalk.i64_in _ (by omega)]; omega
  generalize ((x - r : Nat) : Int) = K at hwr
  clear hb
  go_enter Tryz.func56, Tryz.ntmps56
  go_wp2
  go_quiet (fail)
  go_wp2
  go_ret
  exact ⟨rfl, _, rfl⟩
theorem drewN_two (w : World) (a b : Nat) : (w.drewN a).drewN b = w.drewN (a + b) := by
  simp [World.drewN, Nat.add_assoc]

theorem buffered_q {w : World} {h : Hs} {r x : Nat} {e : Value} {lb lr : Int} (hb : Blk w h.BR (brc h r x e lb lr) 98) (hx : r ≤ x ∧ x ≤ 4096) (k : Nat) :
    Calls Tryz.prog 56 #[.pointer (some ⟨h.BR, 0, none⟩)] (w.drewN k) fun en w' => en = .returned (.int .i64 ((x - r : Nat) : Int)) ∧ ∃ n, w' = w.drewN n :=
  (buffered_any (hb.drewN k) hx).mono fun _ _ ⟨h1, n, h2⟩ => ⟨h1, k + n, by rw [h2, drewN_two]⟩
end Go.Proofs.YtekndndhgkdggaaGreatDoor
