/- How a reading ends: the errors that may come. impl's end: how a reading ends, told by its error. The lists of parts that impl makes: what holds between two parts. What follows on the look for the next part: the end, or a part. laws' same: two lists of the same parts. -/
import Derived.Test.YtekndndhgkdggaaGreatDoorR7
import Derived.Test.YtekndndhgkdggaaGreatDoorR12
import Derived.Test.YtekndndhgkdggaaGreatDoorR16
namespace Go.Proofs.YtekndndhgkdggaaGreatDoor
open Go.RowKit

/-- the error with what it wraps -/
theorem unwrap_any {w : World} {W : Nat} {s e : Value} (h : Blk w W #[s, e] 105) : Calls Tryz.prog 144 #[.pointer (some ⟨W, 0, none⟩)] w fun en w' => en = .returned e ∧ w = w' := by
  have c1 : w.cell? ⟨W, 1, none⟩ = some e := h.cell 1
  clear h
  go_enter Tryz.func144, Tryz.ntmps144
  go_wp2
  go_ret
  exact ⟨rfl, rfl⟩

theorem noIs103 (v : Value) (xT : TypeId) (w : World) : (Instr.typeAssert (.iface 103 v) xT 134 true).run Tryz.prog w = .ok (.tuple #[.nilIface, .bool false]) w := run_typeAssert_lacksB Tryz.underlying134 (by kernel_rfl) (by kernel_rfl) v xT w
theorem isUnwrap103 (v : Value) (xT : TypeId) (w : World) : (Instr.typeAssert (.iface 103 v) xT 137 true).run Tryz.prog w = .ok (.tuple #[.iface 103 v, .bool true]) w := run_typeAssert_hasB Tryz.underlying137 (by kernel_rfl) v xT w
theorem noIs118 (v : Value) (xT : TypeId) (w : World) : (Instr.typeAssert (.iface 118 v) xT 134 true).run Tryz.prog w = .ok (.tuple #[.nilIface, .bool false]) w := run_typeAssert_lacksB Tryz.underlying134 (by kernel_rfl) (by kernel_rfl) v xT w
theorem noUn118 (v : Value) (xT : TypeId) (w : World) : (Instr.typeAssert (.iface 118 v) xT 137 true).run Tryz.prog w = .ok (.tuple #[.nilIface, .bool false]) w := run_typeAssert_lacksB Tryz.underlying137 (by kernel_rfl) (by kernel_rfl) v xT w
theorem noUs118 (v : Value) (xT : TypeId) (w : World) : (Instr.typeAssert (.iface 118 v) xT 138 true).run Tryz.prog w = .ok (.tuple #[.nilIface, .bool false]) w := run_typeAssert_lacksB Tryz.underlying138 (by kernel_rfl) (by kernel_rfl) v xT w
theorem noIs197 (v : Value) (xT : TypeId) (w : World) : (Instr.typeAssert (.iface 197 v) xT 134 true).run Tryz.prog w = .ok (.tuple #[.nilIface, .bool false]) w := run_typeAssert_lacksB Tryz.underlying134 (by kernel_rfl) (by kernel_rfl) v xT w
theorem noUn197 (v : Value) (xT : TypeId) (w : World) : (Instr.typeAssert (.iface 197 v) xT 137 true).run Tryz.prog w = .ok (.tuple #[.nilIface, .bool false]) w := run_typeAssert_lacksB Tryz.underlying137 (by kernel_rfl) (by kernel_rfl) v xT w
theorem noUs197 (v : Value) (xT : TypeId) (w : World) : (Instr.typeAssert (.iface 197 v) xT 138 true).run Tryz.prog w = .ok (.tuple #[.nilIface, .bool false]) w := run_typeAssert_lacksB Tryz.underlying138 (by kernel_rfl) (by kernel_rfl) v xT w

set_option maxRecDepth 100000 in
set_option maxHeartbeats 2000000 in
theorem is_wrapped {B : Nat} {g : Nat → Addr} {w : World} {W : Nat} {s : Value} (hg : Glb B g w) (h : Blk w W #[s, erv (g 0)] 105) :
    Calls Tryz.prog 50 #[.iface 103 (.pointer (some ⟨W, 0, none⟩)), erv (g 0), .bool true] w fun e w' => e = .returned (.bool true) ∧ ∃ k, w' = w.drewN k := by
  have hu := Lib.hid (unwrap_any h)
  have hne : ∀ Wd, (binOp .eql 54 (.iface 103 (.pointer (some ⟨W, 0, none⟩))) (erv (g 0))).run Tryz.prog Wd = .ok (.bool false) Wd := fun Wd => by kernel_rfl
  have heq := fun Wd => eql_eq Wd (g 0)
  have ta1 := fun Wd => noIs103 (.pointer (some ⟨W, 0, none⟩)) 54 Wd
  have ta2 := fun Wd => isUnwrap103 (.pointer (some ⟨W, 0, none⟩)) 54 Wd
  clear h
  go_enter Tryz.func50, Tryz.ntmps50
  go_wp2
  refine wp_loop_rounds 2 ?_; rw [rounds_succ]
  go_wp2_with fail
  refine hu.out.mono ?_
  rintro e w' ⟨rfl, rfl⟩
  go_wp2
  rw [rounds_succ]
  go_wp2
  go_ret
  exact ⟨rfl, 0, rfl⟩

set_option maxRecDepth 100000 in
set_option maxHeartbeats 2000000 in
theorem is_plain {w : World} {T : TypeId} {v : Value} {q : Addr} (hn : ∀ Wd, (binOp .eql 54 (.iface T v) (erv q)).run Tryz.prog Wd = .ok (.bool false) Wd ∨ Wd ≠ w) (h1 : ∀ Wd, (Instr.typeAssert (.iface T v) 54 134 true).run Tryz.prog Wd = .ok (.tuple #[.nilIface, .bool false]) Wd)
    (h2 : ∀ Wd, (Instr.typeAssert (.iface T v) 54 137 true).run Tryz.prog Wd = .ok (.tuple #[.nilIface, .bool false]) Wd) (h3 : ∀ Wd, (Instr.typeAssert (.iface T v) 54 138 true).run Tryz.prog Wd = .ok (.tuple #[.nilIface, .bool false]) Wd) :
    Calls Tryz.prog 50 #[.iface T v, erv q, .bool true] w fun e w' => e = .returned (.bool false) ∧ w' = w := by
  have hn0 : (binOp .eql 54 (.iface T v) (erv q)).run Tryz.prog w = .ok (.bool false) w := (hn w).resolve_right (fun h => h rfl)
  clear hn
  go_enter Tryz.func50, Tryz.ntmps50
  go_wp2
  refine wp_loop_rounds 1 ?_; rw [rounds_succ]
  go_wp2
  go_ret
  exact ⟨rfl, rfl⟩

theorem eql_perr (s : ByteArray) (q : Addr) (Wd : World) : (binOp .eql 54 (perr s) (erv q)).run Tryz.prog Wd = .ok (.bool false) Wd := by kernel_rfl

theorem isTypeOf118 (v : Value) (w : World) : (Extern.ReflectliteType.typeOf #[.iface 118 v]).run Tryz.prog w = .ok (.iface 132 (.agg #[.pointer (some ⟨15, 118, none⟩)])) w := by kernel_rfl
theorem call49 (v : Value) (w : World) : (callFunc 49 #[.iface 118 v]).run Tryz.prog w = .ok (.value (.iface 132 (.agg #[.pointer (some ⟨15, 118, none⟩)]))) w := by
  have h49 := @run_callFunc_extern Tryz.prog 49 _ Extern.ReflectliteType.typeOf Tryz.func49 (by kernel_rfl) (by kernel_rfl) (by kernel_rfl) (by kernel_rfl)
  rw [h49, isTypeOf118]; rfl
theorem isComparable118 (w : World) : ((Extern.ReflectliteType.method fun t => do Extern.Rtype.noPackHeld "Comparable" t; pure (.bool (← typeInfo t).comparable)) #[.agg #[.pointer (some ⟨15, 118, none⟩)]]).run Tryz.prog w = .ok (.bool true) w := by kernel_rfl
theorem call164 (w : World) : (callFunc 164 #[.agg #[.pointer (some ⟨15, 118, none⟩)]]).run Tryz.prog w = .ok (.value (.bool true)) w := by
  have h164 := @run_callFunc_extern Tryz.prog 164 _ (Extern.ReflectliteType.method fun t => do Extern.Rtype.noPackHeld "Comparable" t; pure (.bool (← typeInfo t).comparable)) Tryz.func164 (by kernel_rfl) (by kernel_rfl) (by kernel_rfl) (by kernel_rfl)
  rw [h164, isComparable118]; rfl
theorem isMethodComparable (v : Value) (w : World) : (Go.method 356 132 v "Comparable").run Tryz.prog w = .ok (164, v) w := by kernel_rfl

set_option maxRecDepth 100000 in
set_option maxHeartbeats 2000000 in
theorem Is_any {w : World} {T : TypeId} {v : Value} {q : Addr} {b : Bool} (hn : (binOp .eql 54 (.iface T v) .nilIface).run Tryz.prog w = .ok (.bool false) w)
    (h : Calls Tryz.prog 50 #[.iface T v, erv q, .bool true] w fun e w' => e = .returned (.bool b) ∧ ∃ k, w' = w.drewN k) :
    Calls Tryz.prog 37 #[.iface T v, erv q] w fun e w' => e = .returned (.bool b) ∧ ∃ k, w' = w.drewN k := by
  have h := Lib.hid h
  have h49 := call49
  have h164 := call164
  have mR := isMethodComparable
  go_enter Tryz.func37, Tryz.ntmps37
  go_wp2_with (first | (go_at_call 50; refine h.out.mono ?_; rintro e w' ⟨rfl, k, rfl⟩) | fail)
  go_ret
  exact ⟨rfl, _, rfl⟩
end Go.Proofs.YtekndndhgkdggaaGreatDoor

namespace Go.Proofs.YtekndndhgkdggaaGreatDoor
open Go.RowKit

def EndPost (n : Int) (w : World) (e : Ending) (w' : World) : Prop := e = .returned (.int .i64 n) ∧ Chg [] w w'

set_option maxRecDepth 100000 in
set_option maxHeartbeats 2000000 in
theorem end_eof {B : Nat} {g : Nat → Addr} {w : World} (hg : Glb B g w) : Calls Tryz.prog 18 #[erv (g 0)] w (EndPost 0 w) := by
  have g0 := (hg.err 0 (by omega)).1
  have heq := fun W => eql_eq W (g 0)
  clear hg
  go_enter Tryz.func18, Tryz.ntmps18
  go_wp2
  go_ret
  exact ⟨rfl, Chg.refl _ _⟩

set_option maxRecDepth 100000 in
set_option maxHeartbeats 2000000 in
theorem end_not {B : Nat} {g : Nat → Addr} {w : World} {T : TypeId} {v : Value} {b : Bool} (hg : Glb B g w) (hne : (binOp .eql 54 (.iface T v) (erv (g 0))).run Tryz.prog w = .ok (.bool false) w) (hn : (binOp .eql 54 (.iface T v) .nilIface).run Tryz.prog w = .ok (.bool false) w)
    (h : Calls Tryz.prog 50 #[.iface T v, erv (g 0), .bool true] w fun e w' => e = .returned (.bool b) ∧ ∃ k, w' = w.drewN k) : Calls Tryz.prog 18 #[.iface T v] w (EndPost (if b then 1 else 2) w) := by
  have g0 := (hg.err 0 (by omega)).1
  have hi := Lib.hid (Is_any hn h)
  clear hg h
  go_enter Tryz.func18, Tryz.ntmps18
  cases b with
  | true =>
    go_wp2_with (first | (go_at_call 37; refine hi.out.mono ?_; rintro e w' ⟨rfl, k, rfl⟩) | fail)
    go_ret
    exact ⟨rfl, (Chg.refl _ _).drewN _⟩
  | false =>
    go_wp2_with (first | (go_at_call 37; refine hi.out.mono ?_; rintro e w' ⟨rfl, k, rfl⟩) | fail)
    go_ret
    exact ⟨rfl, (Chg.refl _ _).drewN _⟩

theorem end_wrapped {B : Nat} {g : Nat → Addr} {w : World} {W : Nat} {s : Value} (hg : Glb B g w) (h : Blk w W #[s, erv (g 0)] 105) : Calls Tryz.prog 18 #[.iface 103 (.pointer (some ⟨W, 0, none⟩))] w (EndPost 1 w) :=
  end_not (b := true) hg (by kernel_rfl) (by kernel_rfl) (is_wrapped hg h)

theorem end_perr {B : Nat} {g : Nat → Addr} {w : World} {s : ByteArray} (hg : Glb B g w) : Calls Tryz.prog 18 #[perr s] w (EndPost 2 w) :=
  end_not (b := false) hg (eql_perr s (g 0) w) (by kernel_rfl) ((is_plain (fun Wd => .inl (eql_perr s (g 0) Wd)) (fun Wd => noIs197 _ 54 Wd) (fun Wd => noUn197 _ 54 Wd) (fun Wd => noUs197 _ 54 Wd)).mono (fun e w' k => ⟨k.1, 0, k.2⟩))

theorem end_err {B : Nat} {g : Nat → Addr} {w : World} {q : Addr} (hg : Glb B g w) (hq : EA w q) (hne : q ≠ g 0) : Calls Tryz.prog 18 #[erv q] w (EndPost 2 w) :=
  end_not (b := false) hg (eql_ne hq (hg.ea 0 (by omega)) hne) (by kernel_rfl) ((is_plain (fun Wd => by
    by_cases h : Wd = w
    · subst h; exact .inl (eql_ne hq (hg.ea 0 (by omega)) hne)
    · exact .inr h) (fun Wd => noIs118 _ 54 Wd) (fun Wd => noUn118 _ 54 Wd) (fun Wd => noUs118 _ 54 Wd)).mono (fun e w' k => ⟨k.1, 0, k.2⟩))
end Go.Proofs.YtekndndhgkdggaaGreatDoor

namespace Go.Proofs.YtekndndhgkdggaaGreatDoor
open Go.RowKit

structure LS (B : Nat) (g : Nat → Addr) (h : Hs) (S C : List Nat) (w wr : World) (MR : Nat) (bd nl : Bs) (cur v : Value) (qs : List QP) (ps : List PartB) (n : Nat) (rem : Bs) : Prop where
  nst : NSt B g h S wr MR bd nl cur n rem
  own : OwnP (MR :: C) w.heap.size wr v qs ps
  len : ps.length = n
  nlp : 0 < nl.length ∧ (n = 0 → nl = [13, 10])
  c1 : ∀ x ∈ h.all, x ∈ C
  c2 : ∀ PP, cur = .pointer (some ⟨PP, 0, none⟩) → PP ∈ C
  c3 : ∀ x ∈ MR :: C, w.heap.size ≤ x ∧ x < wr.heap.size ∧ v.ownBlock ≠ some x
  s1 : ∀ b, v.ownBlock = some b → b ∈ S
  chg : Chg [] w wr
  gl : Glb B g w

theorem parts_nil {R : List Nat} {w : World} {v : Value} {ps : List PartB} (h : PartsS R w v ps) : PartsS [] w v ps := by
  obtain ⟨a, c, hv, hl, hor⟩ := h
  refine ⟨a, c, hv, hl, hor.imp id ?_⟩
  rintro ⟨b, ha, _, hlt, hs⟩
  refine ⟨b, ha, by simp, hlt, fun i hi => ?_⟩
  obtain ⟨hh, u, p1, p2, p3, p4, p5⟩ := hs i hi
  exact ⟨hh, u, p1, p2, p3, p4.add (by simp), p5.add [] (by simp)⟩

theorem PartsS.chg {S : List Nat} {w w' : World} {v : Value} {ps : List PartB} (h : PartsS S w v ps) (hc : Chg S w w') : PartsS S w' v ps := by
  obtain ⟨a, c, hv, hl, hor⟩ := h
  refine ⟨a, c, hv, hl, hor.imp id ?_⟩
  rintro ⟨b, ha, hb, hlt, hs⟩
  refine ⟨b, ha, hb, Nat.lt_of_lt_of_le hlt hc.size, fun i hi => ?_⟩
  obtain ⟨hh, u, p1, p2, p3, p4, p5⟩ := hs i hi
  exact ⟨hh, u, by rw [hc.cell (p := ⟨b, i * 3, none⟩) hlt hb]; exact p1, by rw [hc.cell (p := ⟨b, i * 3 + 1, none⟩) hlt hb]; exact p2, by rw [hc.cell (p := ⟨b, i * 3 + 2, none⟩) hlt hb]; exact p3, p4.chg hc, p5.chg hc⟩

theorem LS.done {B : Nat} {g : Nat → Addr} {h : Hs} {S C : List Nat} {w wr w' : World} {MR : Nat} {bd nl : Bs} {cur v : Value} {qs : List QP} {ps : List PartB} {n : Nat} {rem : Bs}
    (H : LS B g h S C w wr MR bd nl cur v qs ps n rem) (hc : Chg (MR :: C) wr w') : PartsS [] w' v ps ∧ Chg [] w w' := by
  have hk := H.own.keep hc (fun x hx => ⟨hx, (H.c3 x hx).2.2⟩)
  exact ⟨parts_nil (PartsS.of_own hk (fun g hg hm => (H.c3 g hm).2.2 hg)), H.chg.thn hc (fun x hx => .inr (H.c3 x hx).1)⟩

theorem LS.glb {B : Nat} {g : Nat → Addr} {h : Hs} {S C : List Nat} {w wr w' : World} {MR : Nat} {bd nl : Bs} {cur v : Value} {qs : List QP} {ps : List PartB} {n : Nat} {rem : Bs}
    (H : LS B g h S C w wr MR bd nl cur v qs ps n rem) (hc : Chg (MR :: C) wr w') : Glb B g w' := H.gl.chg (H.done hc).2 (by simp)

theorem OwnP.more {R R' : List Nat} {base : Nat} {w : World} {v : Value} {qs : List QP} {ps : List PartB} (h : OwnP R base w v qs ps) (hs : ∀ x ∈ R', x ∈ R ∨ w.heap.size ≤ x) : OwnP R' base w v qs ps :=
  ⟨h.row, h.rel.add (fun x hx => by
    rcases List.mem_append.1 hx with hx | hx
    · exact .inl (by simp at hx; simp [hx])
    · exact (hs x hx).imp (fun k => by simp [k]) id)⟩

theorem LS.mid {B : Nat} {g : Nat → Addr} {h : Hs} {S C : List Nat} {w wr w1 w2 : World} {MR PP : Nat} {bd nl : Bs} {cur v : Value} {qs : List QP} {ps : List PartB} {n : Nat} {rem : Bs}
    (H : LS B g h S C w wr MR bd nl cur v qs ps n rem) (hc1 : Chg (MR :: C) wr w1) (hP : wr.heap.size ≤ PP) (hc2 : Chg (PP :: h.all) w1 w2) (o : Obj) :
    OwnP (MR :: PP :: C) w.heap.size (w2.alloc o) v qs ps ∧ Chg [] w (w2.alloc o) ∧ (w2.alloc o).ownsRow w.heap.size 44 3 v n (cellsP qs) := by
  have hw := H.chg.size
  have h0 : OwnP (MR :: PP :: C) w.heap.size wr v qs ps := H.own.more (fun x hx => by
    rcases List.mem_cons.1 hx with rfl | hx
    · exact .inl (by simp)
    · rcases List.mem_cons.1 hx with rfl | hx
      · exact .inr hP
      · exact .inl (by simp [hx]))
  have h1 := h0.keep hc1 (fun x hx => ⟨by rcases List.mem_cons.1 hx with e | hx <;> simp [*], (H.c3 x hx).2.2⟩)
  have h2 := h1.keep hc2 (fun x hx => by
    rcases List.mem_cons.1 hx with rfl | hx
    · exact ⟨by simp, fun e => by have := (H.own.row.lt _ e).2; omega⟩
    · exact ⟨by simp [H.c1 x hx], (H.c3 x (by simp [H.c1 x hx])).2.2⟩)
  have h3 := h2.keep ((Chg.refl [] w2).alloc o) (by simp)
  have hr := h3.row
  rw [H.len] at hr
  refine ⟨h3, ?_, hr⟩
  refine Chg.alloc ?_ o
  refine ((H.chg.thn hc1 (fun x hx => .inr (H.c3 x hx).1)).thn hc2 (fun x hx => ?_))
  rcases List.mem_cons.1 hx with rfl | hx
  · right; omega
  · exact .inr (H.c3 x (by simp [H.c1 x hx])).1

/-- one part more -/
theorem LS.more {B : Nat} {g : Nat → Addr} {h : Hs} {S C : List Nat} {w wr w1 w2 w6 : World} {MR PP M : Nat} {bd nl nl' : Bs} {cur v v6 : Value} {qs : List QP} {ps : List PartB} {n : Nat} {rem rem2 : Bs} {res2 : Nat × Nat} {q : QP} {p : PartB}
    (H : LS B g h S C w wr MR bd nl cur v qs ps n rem) (hc1 : Chg (MR :: C) wr w1) (hP : wr.heap.size ≤ PP ∧ PP < w1.heap.size) (hc2 : Chg (PP :: h.all) w1 w2)
    (hpt : PtS B g h (PP :: S) w2 PP MR M bd nl' (.pointer (some ⟨PP, 0, none⟩)) (n + 1) rem2 res2) (hnl : 0 < nl'.length)
    (hq : (∀ S', (∀ x ∈ S', x < w1.heap.size) → FldS S' w2 q.1 p.fields ∧ BS S' w2 q.2.1 p.body) ∧ q.2.2 = p.fault)
    (hg : (w2.alloc (.cells #[q.1, q.2.1, .int .i64 (q.2.2 : Int)] 44)).grownBy w6 v.ownBlock) (hrow : w6.ownsRow w.heap.size 44 3 v6 (n + 1) (cellsP qs ++ [q.1, q.2.1, .int .i64 (q.2.2 : Int)]))
    (hwh : ∃ g c', v6 = .slice (some ⟨g, 0, none⟩) (n + 1) c' ∧ (some g = v.ownBlock ∨ g = (w2.alloc (.cells #[q.1, q.2.1, .int .i64 (q.2.2 : Int)] 44)).heap.size)) :
    ∃ S6, LS B g h S6 (PP :: C) w w6 MR bd nl' (.pointer (some ⟨PP, 0, none⟩)) v6 (qs ++ [q]) (ps ++ [p]) (n + 1) (rem2.drop res2.1) := by
  obtain ⟨hA, hcA, _⟩ := H.mid hc1 hP.1 hc2 (.cells #[q.1, q.2.1, .int .i64 (q.2.2 : Int)] 44)
  obtain ⟨wq, hwq⟩ : ∃ wq, wq = w2.alloc (.cells #[q.1, q.2.1, .int .i64 (q.2.2 : Int)] 44) := ⟨_, rfl⟩
  have hcq : Chg [] w2 wq := by rw [hwq]; exact (Chg.refl [] w2).alloc _
  rw [← hwq] at hg hwh hA hcA
  clear hwq
  have hw := H.chg.size
  have h1s := hc1.size
  have h2s := hc2.size
  have hqs := hcq.size
  have hvl : ∀ x, v.ownBlock = some x → w.heap.size ≤ x ∧ x < wr.heap.size := fun x hx => H.own.row.lt x hx
  have hlt : ∀ x ∈ v.ownBlock.toList ++ MR :: PP :: C, x < w1.heap.size := fun x hx => by
    rcases List.mem_append.1 hx with hx | hx
    · have := hvl x (by simpa using hx); omega
    · rcases List.mem_cons.1 hx with rfl | hx
      · have := H.c3 x (by simp); omega
      · rcases List.mem_cons.1 hx with rfl | hx
        · exact hP.2
        · have := H.c3 x (by simp [hx]); omega
  obtain ⟨hfq, hbq⟩ := hq.1 _ hlt
  have hsn := OwnP.snoc (p := p) hA hg (by rw [H.len]; exact hrow) (by rw [H.len]; exact hwh) ⟨hfq.chg hcq.none, hbq.chg hcq.none, hq.2⟩
  have hg6 := Chg.of_grown hg
  have h6s := hg6.size
  have hB : B ≤ w.heap.size := H.gl.le
  have hpq := ((hpt.quiet hcq).add (S' := wq.heap.size :: PP :: S) (fun x hx => by
    rcases List.mem_cons.1 hx with rfl | hx
    · exact .inr (Nat.le_refl _)
    · exact .inl hx) (fun x hx => List.mem_cons_of_mem _ (hpt.far.2.2.2.2.2 x hx))).turn hg6 (fun x hx => by
      have hx' : v.ownBlock = some x := by simpa using hx
      have := hvl x hx'
      refine ⟨by simp [H.s1 x hx'], by omega, fun hm => ?_⟩
      rcases List.mem_cons.1 hm with rfl | hm
      · omega
      · exact (H.c3 x (by simp [H.c1 x hm])).2.2 hx')
  obtain ⟨f1, f2, f3, f4, f5, f6⟩ := hpq.far
  refine ⟨wq.heap.size :: PP :: S, ⟨⟨hpq.mr, f2, f4, f5, fun x hx => f6 x (by simp [hx]), .inr ⟨PP, M, rem2, res2, rfl, hpq, rfl⟩⟩, hsn, by simp [H.len], ⟨hnl, fun e => by omega⟩, fun x hx => by simp [H.c1 x hx], fun P hP => by cases hP; simp, fun x hx => ?_, fun b hb => ?_, ?_, H.gl⟩⟩
  · have hxl : w.heap.size ≤ x ∧ x < w2.heap.size ∧ v.ownBlock ≠ some x := by
      rcases List.mem_cons.1 hx with rfl | hx
      · have := H.c3 x (by simp); exact ⟨this.1, by omega, this.2.2⟩
      · rcases List.mem_cons.1 hx with rfl | hx
        · exact ⟨by omega, by omega, fun e => by have := hvl _ e; omega⟩
        · have := H.c3 x (by simp [hx]); exact ⟨this.1, by omega, this.2.2⟩
    refine ⟨hxl.1, by omega, fun e => ?_⟩
    obtain ⟨g9, c9, rfl, hor⟩ := hwh
    simp [Value.ownBlock] at e
    subst e
    rcases hor with hor | hor
    · exact hxl.2.2 hor.symm
    · omega
  · obtain ⟨g9, c9, rfl, hor⟩ := hwh
    simp [Value.ownBlock] at hb
    subst hb
    rcases hor with hor | hor
    · simp [H.s1 _ hor.symm]
    · simp [hor]
  · exact hcA.thn hg6 (fun x hx => .inr (hvl x (by simpa using hx)).1)

/-- the beginning -/
theorem LS.start {B : Nat} {g : Nat → Addr} {w w2 : World} {a : Option Addr} {c : Nat} {rem bd : Bs} {e : Ending} (hg : Glb B g w) (hv : BS [] w (.slice a rem.length c) rem) (hl : rem.length ≤ 3000)
    (hp : NrPost w.heap.size bd (w.alloc (.cells #[.slice a rem.length c, .int .i64 0, .int .i64 (-1)] 83)) e w2) :
    ∃ h MR S, e = .returned (.pointer (some ⟨MR, 0, none⟩)) ∧ LS B g h S h.all w (w2.alloc (.cells #[] 44)) MR bd [13, 10] (.pointer none) (.slice (some ⟨w2.heap.size, 0, none⟩) 0 0) [] [] 0 rem := by
  obtain ⟨h, MR, hRD, rfl, hc, hnew, n1, n2, n3, hMn, hbr, hst, hu, hmr⟩ := hp
  obtain ⟨wa, hwa⟩ : ∃ wa, wa = w.alloc (.cells #[.slice a rem.length c, .int .i64 0, .int .i64 (-1)] 83) := ⟨_, rfl⟩
  have hca : Chg [] w wa := by rw [hwa]; exact (Chg.refl [] w).alloc _
  have hba : Blk wa w.heap.size #[.slice a rem.length c, .int .i64 0, .int .i64 (-1)] 83 := by rw [hwa]; exact Blk.new _ _ _
  have hsa : wa.heap.size = w.heap.size + 1 := by rw [hwa]; simp
  rw [← hwa] at hc hnew hmr
  clear hwa
  have hmr := hmr (by omega)
  have e1 := hnew h.ST (by simp)
  have e2 := hnew h.BR (by simp)
  have e3 := hnew h.U (by simp)
  have e4 := hnew MR (by simp)
  have hcs := hc.size
  have hB := hg.le
  have hall : ∀ x ∈ h.all, w.heap.size ≤ x ∧ x < w2.heap.size := fun x hx => by
    have q1 := hbr.lt
    have q2 := hst.lt
    obtain ⟨_, _, q3, _⟩ := hu
    have q3 := q3.lt
    unfold Hs.all at hx
    simp at hx
    rcases hx with rfl | rfl | rfl | rfl <;> omega
  have hMa : MR ∉ h.all := fun hm => by
    unfold Hs.all at hm
    simp at hm hMn
    rcases hm with h1 | h1 | h1 | h1
    · omega
    · exact hMn.1 h1
    · exact hMn.2.1 h1
    · exact hMn.2.2 h1
  have hMlt : MR < w2.heap.size := by obtain ⟨⟨_, _, _, _, _, hb, _⟩, _⟩ := hmr; exact hb.lt
  have hcw : Chg [] w (w2.alloc (.cells #[] 44)) := (hca.trans hc).alloc _
  have hc3 : Chg [] w2 (w2.alloc (.cells #[] 44)) := (Chg.refl [] w2).alloc _
  refine ⟨h, MR, w2.heap.size :: h.all, rfl, ⟨⟨?_, hMa, by omega, ?_, fun x hx => by simp [hx], .inl ⟨rfl, .inr ⟨-1, -1, ?_⟩⟩⟩,
    ?_, rfl, ⟨by simp, fun _ => rfl⟩, fun x hx => hx, fun P hP => (by cases hP), fun x hx => ?_, fun b hb => (by simp [Value.ownBlock] at hb; simp [hb]), hcw, hg⟩⟩
  · refine (hmr.add (S' := w2.heap.size :: h.all) (fun x hx => ?_)).chg hc3.none (fun hm => ?_)
    · rcases List.mem_cons.1 hx with rfl | hx
      · exact .inr (Nat.le_refl _)
      · exact .inl hx
    · rcases List.mem_cons.1 hm with h1 | h1
      · omega
      · exact hMa h1
  · intro hm
    rcases List.mem_cons.1 hm with h1 | h1
    · omega
    · exact hMa h1
  · have hok : h.ok B := ⟨by omega, by omega, by omega, by omega, by omega, by omega, by omega, n1, n2, n3⟩
    obtain ⟨cs, T, hub, husz⟩ := hu
    refine ⟨hg.chg hcw (by simp), hok, hbr.chg hc3 (by simp), ?_, ⟨a, c, .int .i64 (-1), ?_, ?_⟩, ⟨cs, T, hub.chg hc3 (by simp), husz⟩, hl⟩
    · have := hst.chg hc3 (by simp)
      rw [hRD]; exact this
    · rw [hRD]; exact (hba.chg hc (by simp)).chg hc3 (by simp)
    · exact (hv.add h.all (fun x hx => .inr (hall x hx).1)).chg hcw.none
  · have h1 := OwnP.nil (MR :: h.all) w.heap.size w2 (by omega)
    simpa using h1
  · have hx2 : w.heap.size ≤ x ∧ x < w2.heap.size := by
      rcases List.mem_cons.1 hx with rfl | hx
      · omega
      · exact hall x hx
    refine ⟨hx2.1, by simp; omega, fun e => ?_⟩
    simp [Value.ownBlock] at e
    omega
end Go.Proofs.YtekndndhgkdggaaGreatDoor

namespace Go.Proofs.YtekndndhgkdggaaGreatDoor
open Go.RowKit

theorem nextB_how (bd : Bs) (parts : Nat) (soon : Bool) (nl rem : Bs) : (nextB bd parts soon nl rem).2.1 ≤ 2 := by
  induction hm : rem.length using Nat.strongRecOn generalizing soon nl rem with
  | _ n ih =>
    subst hm
    have hl := takeLine_len rem
    cases he : (takeLine rem).2.2 with
    | false =>
      rw [nextB_end he]
      simp only
      split <;> omega
    | true =>
      have hp : 0 < (takeLine rem).1.length := List.length_pos_iff.2 (takeLine_ended he)
      rw [nextB_line he]
      split
      · simp
      · split
        · simp
        · split
          · simp
          · split
            · exact ih (takeLine rem).2.1.length (by omega) soon _ (takeLine rem).2.1 rfl
            · split
              · exact ih (takeLine rem).2.1.length (by omega) true _ (takeLine rem).2.1 rfl
              · simp

/-- an error's value, as it comes -/
def ErV (er : Value) : Prop := (∃ q, er = erv q) ∨ (∃ s, er = perr s) ∨ ∃ q, er = .iface 103 (.pointer (some q))

/-- the reading is over -/
def NxEnd (how : Nat) (e : Ending) (w' : World) : Prop :=
  ∃ er, e = .returned (.tuple #[.pointer none, er]) ∧ ErV er ∧ Calls Tryz.prog 18 #[er] w' (EndPost (how : Int) w')

theorem neq_erv (q : Addr) : ErV (erv q) := .inl ⟨_, rfl⟩
theorem neq_perr (s : ByteArray) : ErV (perr s) := .inr (.inl ⟨_, rfl⟩)
theorem neq_wrap (q : Addr) : ErV (.iface 103 (.pointer (some q))) := .inr (.inr ⟨_, rfl⟩)

theorem NxPost.split {B : Nat} {g : Nat → Addr} {h : Hs} {S C : List Nat} {MR : Nat} {bd nl : Bs} {n : Nat} {w : World} {rem : Bs} {e : Ending} {w' : World} (hp : NxPost B g h S C MR bd n w (nextB bd n false nl rem) e w') (hg : Glb B g w') {ps : List PartB} (hps : ps.length = n) :
    Chg (MR :: C) w w' ∧ ((∃ how, NxEnd how e w' ∧ ∀ raw which k, readB bd raw which (k + 1) ps nl rem = some (ps, how)) ∨
      ∃ fs rem' nl' PP M gs SB m ns base, e = .returned (.tuple #[.pointer (some ⟨PP, 0, none⟩), .nilIface]) ∧ w.heap.size ≤ PP ∧ PP < base ∧ MapS base SB ns w' M m gs ∧ (fsOf gs = fs ∧ m ≤ 3000) ∧
        PtS B g h (PP :: S) w' PP MR M bd nl' (.pointer (some ⟨PP, 0, none⟩)) (n + 1) rem' (bodyB bd nl' rem') ∧ 0 < nl'.length ∧
        ∀ raw which k, readB bd raw which (k + 1) ps nl rem = if !raw && printableB fs then none else
          readB bd raw which k (ps ++ [if skipB which n then ⟨fs, [], 0⟩ else ⟨fs, rem'.take (bodyB bd nl' rem').1, (bodyB bd nl' rem').2⟩]) nl' (rem'.drop (bodyB bd nl' rem').1)) := by
  have hhow := nextB_how bd n false nl rem
  have hrd : ∀ raw which k, readB bd raw which (k + 1) ps nl rem = _ := fun raw which k => readB_succ bd raw which k ps nl rem
  rw [hps] at hrd
  generalize nextB bd n false nl rem = t at *
  obtain ⟨is, how, r1, nl1⟩ := t
  obtain ⟨hc, hp⟩ := hp
  refine ⟨hc, ?_⟩
  simp only at hp hrd hhow
  cases is with
  | false =>
    left
    simp only [Bool.false_eq_true, if_false] at hp hrd
    refine ⟨how, ?_, fun raw which k => hrd raw which k⟩
    by_cases h0 : how = 0
    · subst h0
      simp only [if_true] at hp
      exact ⟨_, hp, neq_erv _, end_eof hg⟩
    · rw [if_neg h0] at hp
      by_cases h1 : how = 1
      · subst h1
        simp only [if_true] at hp
        obtain ⟨W, rfl, ⟨s, hb⟩, hg2⟩ := hp
        exact ⟨_, rfl, neq_wrap _, end_wrapped hg hb⟩
      · rw [if_neg h1] at hp
        obtain ⟨q, rfl, hea, hqB, _⟩ := hp
        have h2 : how = 2 := by omega
        subst h2
        exact ⟨_, rfl, neq_erv _, end_err hg hea (fun e => by rw [e] at hqB; have := (hg.err 0 (by omega)).2; omega)⟩
  | true =>
    simp only [if_true] at hp hrd
    cases hh : hdrB r1 with
    | early =>
      rw [hh] at hp hrd
      left
      exact ⟨0, ⟨_, hp, neq_erv _, end_eof hg⟩, fun raw which k => hrd raw which k⟩
    | wrong =>
      rw [hh] at hp hrd
      obtain ⟨er, rfl, hor, _⟩ := hp
      left
      rcases hor with ⟨s, rfl⟩ | rfl
      · exact ⟨2, ⟨_, rfl, neq_perr _, end_perr hg⟩, fun raw which k => hrd raw which k⟩
      · exact ⟨2, ⟨_, rfl, neq_erv _, end_err hg (hg.ea 5 (by omega)) (Ne.symm hg.ne.2.2.1)⟩, fun raw which k => hrd raw which k⟩
    | ok fs rem' =>
      rw [hh] at hp hrd
      obtain ⟨PP, M, gs, SB, m, ns, base, rfl, h1, h2, h3, h4, _, h6, h7⟩ := hp
      exact .inr ⟨fs, rem', nl1, PP, M, gs, SB, m, ns, base, rfl, h1, h2, h3, h4, h6, h7, fun raw which k => hrd raw which k⟩
end Go.Proofs.YtekndndhgkdggaaGreatDoor

namespace Go.Proofs.YtekndndhgkdggaaGreatDoor
open Go.RowKit

def TruePost (w : World) (e : Ending) (w' : World) : Prop := e = .returned (.bool true) ∧ Chg [] w w'
def TrueQ (w : World) (e : Ending) (w' : World) : Prop := e = .returned (.bool true) ∧ ∃ n, w' = w.drewN n

set_option maxRecDepth 100000 in
set_option maxHeartbeats 2000000 in
theorem slEq_any {S S' : List Nat} {w : World} {v v' : Value} {ss : List Bs} (h : StrS S w v ss) (h' : StrS S' w v' ss) (hn : ss.length ≤ 100000) : Calls Tryz.prog 21 #[v, v'] w (TrueQ w) := by
  obtain ⟨a, c, rfl, hlc, _⟩ := id h
  obtain ⟨a', c', rfl, hlc', _⟩ := id h'
  have HH := Lib.hid (And.intro h h'); clear h h'
  go_enter Tryz.func21, Tryz.ntmps21
  go_wp2
  go_loopg [13] ss.length (fun gk v wr => ∃ i k : Nat, v = .int .i64 (i : Int) ∧ i ≤ ss.length ∧ wr = w.drewN k ∧ ss.length - i ≤ gk)
  case atStart => exact ⟨0, 0, rfl, Nat.zero_le _, rfl, by omega⟩
  case round =>
    obtain ⟨i, k, rfl, hi, rfl, hk⟩ := hrel
    by_cases hlt : i < ss.length
    · obtain ⟨b, o, rfl, _, _, hc⟩ := HH.out.1.at_.2.2 (by omega)
      obtain ⟨b', o', rfl, _, _, hc'⟩ := HH.out.2.at_.2.2 (by omega)
      have c1 : (w.drewN k).cell? ⟨b, o + i, none⟩ = some (sv (ss.getD i [])) := hc i hlt
      have c2 : (w.drewN k).cell? ⟨b', o' + i, none⟩ = some (sv (ss.getD i [])) := hc' i hlt
      have i1 : (0 : Int) ≤ (i : Int) := by omega
      have i2 : (i : Int) < (ss.length : Int) := by omega
      clear hc hc'
      generalize ss.getD i [] = s at *
      generalize hwk : w.drewN k = wk at *
      have HWK := Lib.hid hwk; clear hwk
      go_wp2
      go_quiet (fail)
      go_wp2
      go_roundg (ss.length - (i + 1))
      case measure => omega
      case rel => exact ⟨i + 1, k + nq, by go_num, by omega, by rw [← HWK.out, drewN_two], Nat.le_refl _⟩
    · have hie : i = ss.length := by omega
      subst hie
      go_wp2
      go_ret
      exact ⟨rfl, k, rfl⟩

theorem slEq_q {S S' : List Nat} {w : World} {v v' : Value} {ss : List Bs} (h : StrS S w v ss) (h' : StrS S' w v' ss) (hn : ss.length ≤ 100000) (k : Nat) :
    Calls Tryz.prog 21 #[v, v'] (w.drewN k) fun e w' => e = .returned (.bool true) ∧ ∃ n, w' = w.drewN n :=
  (slEq_any (h.chg ((Chg.refl S w).drewN k)) (h'.chg ((Chg.refl S' w).drewN k)) hn).mono fun _ _ ⟨h1, n, h2⟩ => ⟨h1, k + n, by rw [h2, drewN_two]⟩

theorem PartsS.at_ {S : List Nat} {w : World} {a : Option Addr} {n c : Nat} {ps : List PartB} (h : PartsS S w (.slice a n c) ps) : n = ps.length ∧ n ≤ c ∧ (0 < n → ∃ b, a = some ⟨b, 0, none⟩ ∧ b < w.heap.size ∧ ∀ i, i < n → PartS S w b i (ps.getD i default)) := by
  obtain ⟨a', c', hv, hl, h⟩ := h
  cases hv
  refine ⟨rfl, hl, fun hn => ?_⟩
  rcases h with ⟨rfl, rfl, rfl⟩ | ⟨b, ha, _, hlt, hs⟩
  · simp at hn
  · exact ⟨b, ha, hlt, hs⟩

/-- small enough -/
def SmallP (ps : List PartB) : Prop := ps.length ≤ 1000 ∧ ∀ p ∈ ps, p.fields.length ≤ 100000 ∧ p.body.length ≤ 100000 ∧ ∀ f ∈ p.fields, f.2.length ≤ 100000

set_option maxRecDepth 100000 in
set_option maxHeartbeats 4000000 in
theorem same_any {w : World} {v v' : Value} {ps : List PartB} (h : PartsS [] w v ps) (h' : PartsS [] w v' ps) (hs : SmallP ps) : Calls Tryz.prog 7 #[v, v'] w (TruePost w) := by
  obtain ⟨a, c, rfl, hlc, _⟩ := id h
  obtain ⟨a', c', rfl, hlc', _⟩ := id h'
  have HH := Lib.hid (And.intro h (And.intro h' hs.2)); clear h h'
  have hn := hs.1
  clear hs
  go_enter Tryz.func7, Tryz.ntmps7
  go_wp2
  go_loopg [17] ps.length (fun gk v wr => ∃ i : Nat, v = .int .i64 (i : Int) ∧ i ≤ ps.length ∧ Hid (Chg [] w wr) ∧ ps.length - i ≤ gk)
  case atStart => exact ⟨0, rfl, Nat.zero_le _, Chg.refl _ _, by omega⟩
  case round =>
    obtain ⟨i, rfl, hi, hch, hk⟩ := hrel
    have hch := Lib.hid hch.out
    rename World => wo
    by_cases hlt : i < ps.length
    · have hmo : ps.length - (i + 1) < gk := by omega
      have hi1 : i + 1 ≤ ps.length := by omega
      obtain ⟨b, rfl, hbl, hc⟩ := (HH.out.1.chg hch.out).at_.2.2 (by omega)
      obtain ⟨b', rfl, hbl', hc'⟩ := (HH.out.2.1.chg hch.out).at_.2.2 (by omega)
      obtain ⟨h1, u1, p0, p1, p2, hf1, hu1⟩ := hc i hlt
      obtain ⟨h2, u2, q0, q1, q2, hf2, hu2⟩ := hc' i hlt
      have hm : ps.getD i default ∈ ps := by simp [List.getD, List.getElem?_eq_getElem hlt]
      have hsm := HH.out.2.2 _ hm
      clear hc hc' hm
      generalize ps.getD i default = p at *
      obtain ⟨af, cf, rfl, hcf, _⟩ := id hf1
      obtain ⟨af2, cf2, rfl, hcf2, _⟩ := id hf2
      obtain ⟨au, cu, rfl, hcu, _⟩ := id hu1
      obtain ⟨au2, cu2, rfl, hcu2, _⟩ := id hu2
      obtain ⟨fs, body, flt⟩ := p
      simp only at *
      have i1 : (0 : Int) ≤ (i : Int) := by omega
      have i2 : (i : Int) < (ps.length : Int) := by omega
      have HF := Lib.hid (And.intro hf1 (And.intro hf2 (And.intro hu1 (And.intro hu2 hsm)))); clear hf1 hf2 hu1 hu2
      obtain ⟨W1, hW1⟩ : ∃ W1, W1 = (wo.alloc (.cells #[.slice af fs.length cf, .slice au body.length cu, .int .i64 (flt : Int)] 44)).alloc (.cells #[.slice af2 fs.length cf2, .slice au2 body.length cu2, .int .i64 (flt : Int)] 44) := ⟨_, rfl⟩
      have hcW : Chg [] wo W1 := by rw [hW1]; exact ((Chg.refl [] wo).alloc _).alloc _
      have hp1 : Blk W1 wo.heap.size #[.slice af fs.length cf, .slice au body.length cu, .int .i64 (flt : Int)] 44 := by rw [hW1]; exact (Blk.new wo _ _).alloc _
      have hp2 : Blk W1 (wo.heap.size + 1) #[.slice af2 fs.length cf2, .slice au2 body.length cu2, .int .i64 (flt : Int)] 44 := by rw [hW1]; exact Blk.at_ _ (by simp) _ _
      have a0 : W1.cell? ⟨wo.heap.size, 0, none⟩ = some (.slice af fs.length cf) := hp1.cell 0
      have a1 : W1.cell? ⟨wo.heap.size, 1, none⟩ = some (.slice au body.length cu) := hp1.cell 1
      have a2 : W1.cell? ⟨wo.heap.size, 2, none⟩ = some (.int .i64 (flt : Int)) := hp1.cell 2
      have b0 : W1.cell? ⟨wo.heap.size + 1, 0, none⟩ = some (.slice af2 fs.length cf2) := hp2.cell 0
      have b1 : W1.cell? ⟨wo.heap.size + 1, 1, none⟩ = some (.slice au2 body.length cu2) := hp2.cell 1
      have b2 : W1.cell? ⟨wo.heap.size + 1, 2, none⟩ = some (.int .i64 (flt : Int)) := hp2.cell 2
      have heq := Lib.hid (equal_any (HF.out.2.2.1.chg hcW) (HF.out.2.2.2.1.chg hcW))
      have hbe : (body == body) = true := by simp
      rw [hbe] at heq
      clear hbe
      have HW := Lib.hid (And.intro hcW (And.intro hp1 hp2)); clear hcW hp1 hp2
      have hfl : fs.length ≤ 100000 := HF.out.2.2.2.2.1
      go_upto_region 7 with (fail)
      rw [← hW1]
      clear hW1 p0 p1 p2 q0 q1 q2
      go_wp2_with (go_at_call 20; refine heq.out.mono ?_; rintro e w3 ⟨rfl, rfl⟩)
      clear a0 a1 a2 b0 b1 b2
      go_loopg [51] fs.length (fun gk v wr => ∃ j : Nat, v = .int .i64 (j : Int) ∧ j ≤ fs.length ∧ Hid (Chg [] W1 wr) ∧ fs.length - j ≤ gk)
      case atStart => exact ⟨0, rfl, Nat.zero_le _, Chg.refl _ _, by omega⟩
      case round =>
        obtain ⟨j, rfl, hj, hcz, hkz⟩ := hrel
        have hcz := Lib.hid hcz.out
        by_cases hltj : j < fs.length
        · have hmi : fs.length - (j + 1) < gk := by omega
          have hj1 : j + 1 ≤ fs.length := by omega
          have hcwz := HW.out.1.trans hcz.out
          obtain ⟨d, rfl, _, hdl, hd⟩ := (HF.out.1.chg hcwz).at_.2.2 (by omega)
          obtain ⟨d', rfl, _, hdl', hd'⟩ := (HF.out.2.1.chg hcwz).at_.2.2 (by omega)
          obtain ⟨s0, x1, s1, hx1⟩ := hd j hltj
          obtain ⟨s0', x2, s1', hx2⟩ := hd' j hltj
          have hmf : fs.getD j ([], []) ∈ fs := by simp [List.getD, List.getElem?_eq_getElem hltj]
          have hsf := HF.out.2.2.2.2.2.2 _ hmf
          clear hd hd' hmf
          generalize fs.getD j ([], []) = f at *
          obtain ⟨fk, fv⟩ := f
          simp only at *
          obtain ⟨ax, cx, rfl, hcx, _⟩ := id hx1
          obtain ⟨ax2, cx2, rfl, hcx2, _⟩ := id hx2
          have j1 : (0 : Int) ≤ (j : Int) := by omega
          have j2 : (j : Int) < (fs.length : Int) := by omega
          obtain ⟨W2, hW2⟩ : ∃ W2, W2 = wr.alloc (.cells #[sv fk, .slice ax fv.length cx] 61) := ⟨_, rfl⟩
          have hc2 : Chg [] wr W2 := by rw [hW2]; exact (Chg.refl [] wr).alloc _
          have hf1 : Blk W2 wr.heap.size #[sv fk, .slice ax fv.length cx] 61 := by rw [hW2]; exact Blk.new _ _ _
          have hq2 := HW.out.2.2.chg (hcz.out.trans hc2) (by simp)
          have a0 : W2.cell? ⟨wr.heap.size, 0, none⟩ = some (sv fk) := hf1.cell 0
          have a1 : W2.cell? ⟨wr.heap.size, 1, none⟩ = some (.slice ax fv.length cx) := hf1.cell 1
          have b0 : W2.cell? ⟨wo.heap.size + 1, 0, none⟩ = some (.slice (some ⟨d', 0, none⟩) fs.length cf2) := hq2.cell 0
          have e0 : W2.cell? ⟨d', j * 2, none⟩ = some (sv fk) := by rw [hc2.cell (p := ⟨d', j * 2, none⟩) hdl' (by simp)]; exact s0'
          have e1 : W2.cell? ⟨d', j * 2 + 1, none⟩ = some (.slice ax2 fv.length cx2) := by rw [hc2.cell (p := ⟨d', j * 2 + 1, none⟩) hdl' (by simp)]; exact s1'
          have hsl := Lib.hid (slEq_q (hx1.chg hc2.none) (hx2.chg hc2.none) hsf)
          have H2 := Lib.hid hc2; clear hc2 hf1 hq2 hx1 hx2 hcwz
          go_upto_region 12 with (fail)
          rw [← hW2]
          clear hW2 s0 s1 s0' s1'
          go_quiet ((go_at_call 21; exact hsl.out _))
          go_wp2
          go_roundg (fs.length - (j + 1))
          case measure => exact hmi
          case rel => exact ⟨j + 1, by go_num, hj1, (hcz.out.trans H2.out).drewN nq, Nat.le_refl _⟩
        · have hje : j = fs.length := by omega
          subst hje
          go_wp2
          go_roundg (ps.length - (i + 1))
          case measure => exact hmo
          case rel => exact ⟨i + 1, by go_num, hi1, hch.out.trans (HW.out.1.trans hcz.out), Nat.le_refl _⟩
    · have hie : i = ps.length := by omega
      subst hie
      go_wp2
      go_ret
      exact ⟨rfl, hch.out⟩
end Go.Proofs.YtekndndhgkdggaaGreatDoor
