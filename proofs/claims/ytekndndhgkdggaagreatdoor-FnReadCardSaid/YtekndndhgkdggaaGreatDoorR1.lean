/- Plain functions on lists of bytes: what the reading of a multipart body comes to (no program in sight). Words on memory that the walks share: what a call may have changed, blocks that are known whole, stretches of bytes, slices of bytes. The reference's small functions: blank, valued, token, begins, behind, trimmed: what each returns. The reference's reading: line, final, delimiter, headLine. The reference's reading: final, delimiter, headLine. The reference's trimmed, ends, token. The reference's token and key. -/
import Derived.Test.YtekndndhgkdggaaGreatDoorProg
import Derived.WalkKit
import Derived.WalkSpells
import Derived.WalkLawsBesides
import Derived.Deep.QuietTactic
import Derived.BigQuiet
import Derived.Lib.Hide
import Derived.Lib.SlBytesConst
namespace Go.Proofs.YtekndndhgkdggaaGreatDoor

abbrev Bs := List UInt8

def blankB (c : UInt8) : Bool := c == 32 || c == 9

/-- a line with its end, what is left, and whether it had an end. -/
def takeLine : Bs → Bs × Bs × Bool
  | [] => ([], [], false)
  | c :: r => if c = 10 then ([c], r, true) else ((takeLine r).1.cons c, (takeLine r).2.1, (takeLine r).2.2)

theorem takeLine_app (l : Bs) : (takeLine l).1 ++ (takeLine l).2.1 = l := by
  induction l with
  | nil => rfl
  | cons c r ih => unfold takeLine; split <;> simp_all

theorem takeLine_len (l : Bs) : (takeLine l).1.length + (takeLine l).2.1.length = l.length := by
  have := congrArg List.length (takeLine_app l); simpa using this

theorem takeLine_ended {l : Bs} (h : (takeLine l).2.2 = true) : (takeLine l).1 ≠ [] := by
  cases l with
  | nil => simp [takeLine] at h
  | cons c r => unfold takeLine; split <;> simp

theorem takeLine_not_ended {l : Bs} (h : (takeLine l).2.2 = false) : takeLine l = (l, [], false) := by
  induction l with
  | nil => rfl
  | cons c r ih =>
    unfold takeLine at h ⊢
    split at h
    · simp at h
    · rename_i hc
      rw [if_neg hc, ih h]

def dropBl (l : Bs) : Bs := l.dropWhile blankB
/-- blanks at the end left out -/
def dropEnd : Bs → Bs
  | [] => []
  | c :: r => if dropEnd r = [] ∧ blankB c then [] else c :: dropEnd r
def trimB (l : Bs) : Bs := dropEnd (dropBl l)

def begB (b p : Bs) : Bool := p.isPrefixOf b

def behindB (l front : Bs) : Option Bs := if begB l front then some (dropBl (l.drop front.length)) else none

def finalB (bd nl l : Bs) : Bool :=
  match behindB l ([45, 45] ++ bd ++ [45, 45]) with
  | some rest => rest == [] || rest == nl
  | none => false

/-- the end of lines behind the look at a line that may be the first boundary's -/
def nlB (bd nl : Bs) (parts : Nat) (l : Bs) : Bs :=
  match behindB l ([45, 45] ++ bd) with
  | some rest => if parts = 0 ∧ rest = [10] then [10] else nl
  | none => nl
def delimB (bd nl : Bs) (l : Bs) : Bool :=
  match behindB l ([45, 45] ++ bd) with
  | some rest => rest == nl
  | none => false

/-- next: whether there is a part, how it ends otherwise (0, 1, 2), what is left, the end of lines. -/
def nextB (bd : Bs) (parts : Nat) (soon : Bool) (nl rem : Bs) : Bool × Nat × Bs × Bs :=
  let t := takeLine rem
  if h : t.2.2 = true then
    let nl' := nlB bd nl parts t.1
    if delimB bd nl' t.1 then (true, 0, t.2.1, nl')
    else if finalB bd nl' t.1 then (false, 0, t.2.1, nl')
    else if soon then (false, 2, t.2.1, nl')
    else if parts = 0 then nextB bd parts soon nl' t.2.1
    else if t.1 = nl' then nextB bd parts true nl' t.2.1
    else (false, 2, t.2.1, nl')
  else if finalB bd nl t.1 then (false, 0, [], nl)
  else (false, 1, [], nl)
termination_by rem.length
decreasing_by
  all_goals
    have h1 := takeLine_len rem
    have h2 := takeLine_ended h
    have h3 : 0 < (takeLine rem).1.length := List.length_pos_iff.2 h2
    simp only [t] at *
    omega

/-- the end of a line left out: LF, or CR LF -/
def chompB (l : Bs) : Bs := if l.getLast? = some 10 then (if l.dropLast.getLast? = some 13 then l.dropLast.dropLast else l.dropLast) else l

/-- a line of a header without its end, and what is left; none where nothing is left. -/
def headLineB (rem : Bs) : Option (Bs × Bs) :=
  if rem = [] then none
  else some (if (takeLine rem).2.2 then chompB (takeLine rem).1 else (takeLine rem).1, (takeLine rem).2.1)

theorem headLineB_lt {rem : Bs} {p : Bs × Bs} (h : headLineB rem = some p) : p.2.length < rem.length := by
  unfold headLineB at h
  split at h
  · cases h
  · rename_i hne
    cases h
    have h1 := takeLine_len rem
    have h3 : 0 < (takeLine rem).1.length := by
      cases rem with
      | nil => exact absurd rfl hne
      | cons c r => unfold takeLine; split <;> simp
    simp only
    omega

theorem dropBl_len (l : Bs) : (dropBl l).length ≤ l.length := by
  unfold dropBl; exact (List.dropWhile_suffix _).length_le

/-- the lines that go on: a space and what they hold, behind what has come; none where the bytes end. -/
def contB (kv rem : Bs) : Option (Bs × Bs) :=
  match rem with
  | [] => some (kv, [])
  | c :: r =>
    if blankB c then
      match h : headLineB (dropBl (c :: r)) with
      | none => none
      | some p => contB (kv ++ [32] ++ trimB p.1) p.2
    else some (kv, c :: r)
termination_by rem.length
decreasing_by
  have h1 := headLineB_lt h
  have h2 := dropBl_len (c :: r)
  omega

def tokenB (c : UInt8) : Bool :=
  (48 ≤ c && c ≤ 57) || (97 ≤ c && c ≤ 122) || (65 ≤ c && c ≤ 90) || ([33, 35, 36, 37, 38, 39, 42, 43, 45, 46, 94, 95, 96, 124, 126] : Bs).contains c

def canonB : Bool → Bs → Bs
  | _, [] => []
  | up, c :: r =>
    let d := if up && (97 ≤ c && c ≤ 122) then c - 32 else if !up && (65 ≤ c && c ≤ 90) then c + 32 else c
    d :: canonB (d == 45) r

/-- a key in its form; none where it may not be one. -/
def keyB (k : Bs) : Option Bs :=
  if k.all (fun c => c == 32 || tokenB c) then some (if k.contains 32 then k else canonB true k) else none

def valuedB (c : UInt8) : Bool := (32 ≤ c && c != 127) || c == 9

abbrev Flds := List (Bs × List Bs)

/-- bytes in their order -/
def ltB : Bs → Bs → Bool
  | [], [] => false
  | [], _ :: _ => true
  | _ :: _, [] => false
  | a :: x, b :: y => a < b || (a == b && ltB x y)

def putB (fs : Flds) (k v : Bs) : Flds :=
  match fs with
  | [] => [(k, [v])]
  | f :: r => if ltB f.1 k then f :: putB r k v else if f.1 = k then (k, f.2 ++ [v]) :: r else (k, [v]) :: f :: r

def beforeB (kv : Bs) : Bs := kv.takeWhile (· != 58)
def afterB (kv : Bs) : Bs := (kv.dropWhile (· != 58)).drop 1

inductive HdrB where
  | ok (fs : Flds) (rem : Bs)
  | early
  | wrong

/-- one line of a header with those that go on: none: the reading of the header ends so -/
inductive LineB where
  | done (rem : Bs)
  | early
  | wrong
  | field (k v rem : Bs)

def lineB (rem : Bs) : LineB :=
  match headLineB rem with
  | none => .early
  | some (l, rem1) =>
    if l = [] then .done rem1
    else if !(l.contains 58) then .wrong
    else
      match contB (trimB l) rem1 with
      | none => .early
      | some (kv, rem2) =>
        match keyB (beforeB kv) with
        | none => .wrong
        | some k =>
          if k = [] then .wrong
          else if (afterB kv).all valuedB then .field k (dropBl (afterB kv)) rem2 else .wrong

theorem contB_le (kv rem : Bs) : ∀ p, contB kv rem = some p → p.2.length ≤ rem.length := by
  induction h : rem.length using Nat.strongRecOn generalizing kv rem with
  | _ n ih =>
    intro p hp
    subst h
    unfold contB at hp
    split at hp
    · cases hp; simp
    · rename_i c r
      split at hp
      · split at hp
        · cases hp
        · rename_i q hq
          have h1 := headLineB_lt hq
          have h2 := dropBl_len (c :: r)
          have := ih q.2.length (by omega) _ q.2 rfl p hp
          omega
      · cases hp; simp

theorem lineB_lt {rem k v rem' : Bs} (h : lineB rem = .field k v rem') : rem'.length < rem.length := by
  unfold lineB at h
  split at h
  · cases h
  · rename_i l rem1 hl
    have h1 := headLineB_lt hl
    split at h
    · cases h
    split at h
    · cases h
    split at h
    · cases h
    rename_i kv rem2 hc
    have h2 := contB_le _ _ _ hc
    split at h
    · cases h
    split at h
    · cases h
    split at h
    · cases h; simp only at h1 h2; omega
    · cases h

def hdrLoopB (fs : Flds) (rem : Bs) : HdrB :=
  match h : lineB rem with
  | .done r => .ok fs r
  | .early => .early
  | .wrong => .wrong
  | .field k v r => hdrLoopB (putB fs k v) r
termination_by rem.length
decreasing_by exact lineB_lt h

def hdrB (rem : Bs) : HdrB :=
  match rem with
  | c :: _ => if blankB c then .wrong else hdrLoopB [] rem
  | [] => hdrLoopB [] []

/-- whether bytes that begin with a front are a boundary's line -/
def endsB (b front : Bs) : Bool :=
  match b.drop front.length with
  | [] => true
  | c :: r => c == 32 || c == 9 || c == 13 || c == 10 || (c == 45 && r.head? == some 45)

/-- the search of the body's end from i on (all bytes b; at: what is known to be body) : (found, i or at) -/
def srchB (b line : Bs) (at' i : Nat) : Bool × Nat :=
  if h : i < b.length then
    if begB (b.drop i) line then
      if endsB (b.drop i) line then (true, i)
      else srchB b line (i + (line.length - 1) + 1) (i + (line.length - 1) + 1)
    else srchB b line at' (i + 1)
  else (false, at')
termination_by b.length - i

/-- the place of the last c -/
def lastB (c : UInt8) (l : Bs) : Option Nat :=
  match l with
  | [] => none
  | d :: r => match lastB c r with
    | some i => some (i + 1)
    | none => if d = c then some 0 else none

/-- the body's length, and whether it is not whole (1) -/
def bodyB (bd nl rem : Bs) : Nat × Nat :=
  let front := [45, 45] ++ bd
  let line := nl ++ [45, 45] ++ bd
  if begB rem front && endsB rem front then (0, 0)
  else
    let at0 := if begB rem front then front.length else 0
    match srchB rem line at0 at0 with
    | (true, i) => (i, 0)
    | (false, a) =>
      let left := rem.drop a
      let n :=
        if (a = 0 && begB front left) || begB line left then 0
        else match lastB (line.headD 0) left with
          | some i => if begB line (left.drop i) then i else left.length
          | none => left.length
      (a + n, 1)

structure PartB where
  fields : Flds
  body : Bs
  fault : Nat

/-- whether a header has the quoted-printable encoding -/
def lowB (c : UInt8) : UInt8 := if 65 ≤ c && c ≤ 90 then c + 32 else c
def cteB : Bs := [67, 111, 110, 116, 101, 110, 116, 45, 84, 114, 97, 110, 115, 102, 101, 114, 45, 69, 110, 99, 111, 100, 105, 110, 103]
def qpB : Bs := [113, 117, 111, 116, 101, 100, 45, 112, 114, 105, 110, 116, 97, 98, 108, 101]
def printableB : Flds → Bool
  | [] => false
  | f :: r => if f.1 = cteB then (f.2.headD []).map lowB == qpB else printableB r

/-- all parts: what has come (the list), how it ends; none: not told (a part in the quoted-printable encoding, not raw). k: how many more parts are asked for at most. -/
def readB (bd : Bs) (raw : Bool) (which : List Bool) (k : Nat) (out : List PartB) (nl rem : Bs) : Option (List PartB × Nat) :=
  match k with
  | 0 => some (out, 3)
  | k + 1 =>
    let t := nextB bd out.length false nl rem
    if t.1 then
      match hdrB t.2.2.1 with
      | .early => some (out, 0)
      | .wrong => some (out, 2)
      | .ok fs rem1 =>
        if !raw && printableB fs then none
        else
          let b := bodyB bd t.2.2.2 rem1
          let skip := which.length ≠ 0 && which.getD (out.length % which.length) false
          readB bd raw which k (out ++ [if skip then ⟨fs, [], 0⟩ else ⟨fs, rem1.take b.1, b.2⟩]) t.2.2.2 (rem1.drop b.1)
    else some (out, t.2.1)

def specB (bd : Bs) (raw : Bool) (which : List Bool) (b : Bs) : Option (List PartB × Nat) :=
  if bd = [] then some ([], 2) else readB bd raw which 200 [] [13, 10] b

end Go.Proofs.YtekndndhgkdggaaGreatDoor

namespace Go.Proofs.YtekndndhgkdggaaGreatDoor
open Go.RowKit

/-- Between w and w' no block of w has turned but those of S; new ones may have come. -/
structure Chg (S : List Nat) (w w' : World) : Prop where
  os : w'.os = w.os
  tape : w'.tape = w.tape
  output : w'.output = w.output
  size : w.heap.size ≤ w'.heap.size
  block : ∀ k, k < w.heap.size → k ∉ S → w'.heap[k]? = w.heap[k]?

theorem Chg.refl (S : List Nat) (w : World) : Chg S w w := ⟨rfl, rfl, rfl, Nat.le_refl _, fun _ _ _ => rfl⟩
theorem Chg.thn {S S' : List Nat} {a b c : World} (h : Chg S a b) (k : Chg S' b c) (hs : ∀ x, x ∈ S' → x ∈ S ∨ a.heap.size ≤ x) : Chg S a c :=
  ⟨k.os.trans h.os, k.tape.trans h.tape, k.output.trans h.output, Nat.le_trans h.size k.size, fun i hi hn =>
    (k.block i (Nat.lt_of_lt_of_le hi h.size) (fun hm => (hs i hm).elim hn (fun h2 => absurd hi (Nat.not_lt.2 h2)))).trans (h.block i hi hn)⟩
theorem Chg.trans {S : List Nat} {a b c : World} (h : Chg S a b) (k : Chg S b c) : Chg S a c := h.thn k (fun _ h => .inl h)
theorem Chg.mono {S S' : List Nat} {a b : World} (h : Chg S a b) (hs : ∀ x, x ∈ S → x ∈ S') : Chg S' a b :=
  ⟨h.os, h.tape, h.output, h.size, fun k hk hn => h.block k hk (fun hm => hn (hs k hm))⟩
/-- what is new may be left out of S -/
theorem Chg.less {S S' : List Nat} {a b : World} (h : Chg S a b) (hs : ∀ x, x ∈ S → x ∈ S' ∨ a.heap.size ≤ x) : Chg S' a b := (Chg.refl S' a).thn h hs
theorem Chg.none {S : List Nat} {a b : World} (h : Chg [] a b) : Chg S a b := h.mono (fun _ h => by cases h)
theorem Chg.alloc {S : List Nat} {a w : World} (h : Chg S a w) (o : Obj) : Chg S a (w.alloc o) :=
  h.trans ⟨rfl, rfl, rfl, by simp, fun k hk _ => Below.heap_alloc _ _ _ (by omega)⟩
theorem Chg.setCell {S : List Nat} {a w : World} (h : Chg S a w) {p : Addr} (hp : p.block ∈ S ∨ a.heap.size ≤ p.block) (u : Value) : Chg S a (w.setCell p u) :=
  h.thn (S' := [p.block]) ⟨rfl, rfl, rfl, by simp [World.setCell], fun k _ hn => Below.heap_setCell _ _ _ _ (by simpa using hn)⟩ (fun x hx => by simp at hx; subst hx; exact hp)
theorem Chg.drew {S : List Nat} {a w : World} (h : Chg S a w) : Chg S a w.drew := h.trans ⟨rfl, rfl, rfl, Nat.le_refl _, fun _ _ _ => rfl⟩
theorem Chg.drewN {S : List Nat} {a w : World} (h : Chg S a w) (n : Nat) : Chg S a (w.drewN n) := h.trans ⟨rfl, rfl, rfl, Nat.le_refl _, fun _ _ _ => rfl⟩
theorem Chg.grown {S : List Nat} {a w w' : World} {row : Option Nat} (h : Chg S a w) (hg : w.grownBy w' row) (hr : ∀ k, row = some k → k ∈ S ∨ a.heap.size ≤ k) : Chg S a w' :=
  h.thn (S' := row.toList) ⟨hg.os, hg.tape, hg.output, hg.size, fun k hk hn => hg.block k hk (fun e => hn (by cases row <;> simp_all))⟩
    (fun x hx => hr x (by cases row <;> simp_all))
theorem Chg.of_below {w w' : World} (h : Below w.heap.size w w') : Chg [] w w' := ⟨h.os, h.tape, h.output, h.size, fun k hk _ => h.block k hk⟩
theorem Chg.below {w w' : World} (h : Chg [] w w') : Below w.heap.size w w' := ⟨h.os, h.tape, h.output, h.size, fun k hk => h.block k hk (by simp)⟩
theorem Chg.cell {S : List Nat} {w w' : World} (h : Chg S w w') {p : Addr} (hp : p.block < w.heap.size) (hn : p.block ∉ S) : w'.cell? p = w.cell? p :=
  World.cell?_of_block (w := w) (h.block p.block hp hn)
theorem Chg.frozen {S : List Nat} {w w' : World} (h : Chg S w w') {p : Addr} (hp : p.block < w.heap.size) (hn : p.block ∉ S) : w'.frozen? p = w.frozen? p :=
  World.frozen?_of_block (w := w) (h.block p.block hp hn)

/-- A block of cells known whole. -/
def Blk (w : World) (B : Nat) (cs : Array Value) (T : TypeId) : Prop := w.heap[B]? = some (.cells cs T (0, 0))

theorem Blk.lt {w : World} {B : Nat} {cs : Array Value} {T : TypeId} (h : Blk w B cs T) : B < w.heap.size := by
  unfold Blk at h
  rcases Nat.lt_or_ge B w.heap.size with h2 | h2
  · exact h2
  · rw [Array.getElem?_eq_none h2] at h; cases h
theorem Blk.cell {w : World} {B : Nat} {cs : Array Value} {T : TypeId} (h : Blk w B cs T) (i : Nat) : w.cell? ⟨B, i, none⟩ = cs[i]? := by
  unfold Blk at h; simp [World.cell?, h]
theorem Blk.free {w : World} {B : Nat} {cs : Array Value} {T : TypeId} (h : Blk w B cs T) (i : Nat) : w.frozen? ⟨B, i, none⟩ = false := by
  unfold Blk at h; simp [World.frozen?, h]
theorem Blk.drewN {w : World} {B : Nat} {cs : Array Value} {T : TypeId} (h : Blk w B cs T) (n : Nat) : Blk (w.drewN n) B cs T := h
theorem Blk.drew {w : World} {B : Nat} {cs : Array Value} {T : TypeId} (h : Blk w B cs T) : Blk w.drew B cs T := h
theorem Blk.alloc {w : World} {B : Nat} {cs : Array Value} {T : TypeId} (h : Blk w B cs T) (o : Obj) : Blk (w.alloc o) B cs T := by
  have := h.lt; unfold Blk at h ⊢; rw [Below.heap_alloc _ _ _ this]; exact h
theorem Blk.set {w : World} {B : Nat} {cs : Array Value} {T : TypeId} (h : Blk w B cs T) (i : Nat) (v : Value) : Blk (w.setCell ⟨B, i, none⟩ v) B (cs.setIfInBounds i v) T := by
  unfold Blk at h ⊢
  simp [World.setCell, Array.getElem?_modify, h]
theorem Blk.set_ne {w : World} {B : Nat} {cs : Array Value} {T : TypeId} (h : Blk w B cs T) {p : Addr} (hp : B ≠ p.block) (v : Value) : Blk (w.setCell p v) B cs T := by
  unfold Blk at h ⊢; rw [Below.heap_setCell _ _ _ _ hp]; exact h
theorem Blk.chg {S : List Nat} {w w' : World} {B : Nat} {cs : Array Value} {T : TypeId} (h : Blk w B cs T) (hc : Chg S w w') (hn : B ∉ S) : Blk w' B cs T := by
  have := h.lt; unfold Blk at h ⊢; rw [hc.block _ this hn]; exact h
theorem Blk.new (w : World) (cs : Array Value) (T : TypeId) : Blk (w.alloc (.cells cs T)) w.heap.size cs T := by
  unfold Blk; show (w.heap.push _)[w.heap.size]? = _; simp
theorem Blk.at_ {w : World} (n : Nat) (hn : n = w.heap.size) (cs : Array Value) (T : TypeId) : Blk (w.alloc (.cells cs T)) n cs T := by
  subst hn; exact Blk.new w cs T

/-- A byte as a value. -/
abbrev bv (c : UInt8) : Value := .int .u8 (c.toNat : Int)

/-- From cell o of block b on lie the bytes l. -/
structure Seg (w : World) (b o : Nat) (l : Bs) : Prop where
  lt : b < w.heap.size
  cell : ∀ i, i < l.length → w.cell? ⟨b, o + i, none⟩ = some (bv (l.getD i 0))

theorem Seg.chg {S : List Nat} {w w' : World} {b o : Nat} {l : Bs} (h : Seg w b o l) (hc : Chg S w w') (hn : b ∉ S) : Seg w' b o l :=
  ⟨Nat.lt_of_lt_of_le h.lt hc.size, fun i hi => by rw [hc.cell (p := ⟨b, o + i, none⟩) h.lt hn]; exact h.cell i hi⟩
theorem Seg.drop {w : World} {b o : Nat} {l : Bs} (h : Seg w b o l) (k : Nat) : Seg w b (o + k) (l.drop k) :=
  ⟨h.lt, fun i hi => by
    have hi' : k + i < l.length := by simp at hi; omega
    rw [Nat.add_assoc, h.cell (k + i) hi']; simp [List.getD]⟩
theorem Seg.take {w : World} {b o : Nat} {l : Bs} (h : Seg w b o l) (k : Nat) : Seg w b o (l.take k) :=
  ⟨h.lt, fun i hi => by
    have hi' : i < k ∧ i < l.length := by simp at hi; omega
    rw [h.cell i hi'.2]; simp [List.getD, hi'.1]⟩
theorem Seg.app {w : World} {b o : Nat} {l m : Bs} (h : Seg w b o l) (h2 : Seg w b (o + l.length) m) : Seg w b o (l ++ m) :=
  ⟨h.lt, fun i hi => by
    by_cases hl : i < l.length
    · rw [h.cell i hl]; simp [List.getD, List.getElem?_append_left hl]
    · have := h2.cell (i - l.length) (by simp at hi; omega)
      rw [show o + l.length + (i - l.length) = o + i from by omega] at this
      rw [this]; simp [List.getD, List.getElem?_append_right (by omega : l.length ≤ i)]⟩
theorem Seg.nil {w : World} {b o : Nat} (h : b < w.heap.size) : Seg w b o [] := ⟨h, fun i hi => by cases hi⟩

/-- The address behind 's[l:..]': kept where nothing is left of the capacity m. -/
def subA (a : Option Addr) (m l : Nat) : Option Addr := if m = l then a else a.map (·.add l)

theorem subA_zero (a : Option Addr) (m : Nat) : subA a m 0 = a := by
  unfold subA; split
  · rfl
  · cases a <;> simp [Addr.add]

theorem subA_some (b o m l : Nat) (h : l < m) : subA (some ⟨b, o, none⟩) m l = some ⟨b, o + l, none⟩ := by
  unfold subA; rw [if_neg (by omega)]
  simp only [Option.map_some, Option.some.injEq, Addr.add]
  split
  · subst l; rfl
  · rfl

/-- A slice of bytes: what it holds; its block is none of S. -/
def BS (S : List Nat) (w : World) (v : Value) (l : Bs) : Prop :=
  ∃ a c, v = .slice a l.length c ∧ l.length ≤ c ∧ ((a = none ∧ l = [] ∧ c = 0) ∨ ∃ b o, a = some ⟨b, o, none⟩ ∧ b ∉ S ∧ Seg w b o l)

theorem BS.chg {S : List Nat} {w w' : World} {v : Value} {l : Bs} (h : BS S w v l) (hc : Chg S w w') : BS S w' v l := by
  obtain ⟨a, c, hv, hl, h⟩ := h
  refine ⟨a, c, hv, hl, h.imp id ?_⟩
  rintro ⟨b, o, ha, hb, hs⟩
  exact ⟨b, o, ha, hb, hs.chg hc hb⟩
theorem BS.mono {S S' : List Nat} {w : World} {v : Value} {l : Bs} (h : BS S w v l) (hs : ∀ x, x ∈ S' → x ∈ S) : BS S' w v l := by
  obtain ⟨a, c, hv, hl, h⟩ := h
  refine ⟨a, c, hv, hl, h.imp id ?_⟩
  rintro ⟨b, o, ha, hb, hseg⟩
  exact ⟨b, o, ha, fun hm => hb (hs b hm), hseg⟩
/-- a block that is new is none of what is held -/
theorem BS.add {S : List Nat} {w : World} {v : Value} {l : Bs} (h : BS S w v l) (S' : List Nat) (hs : ∀ x, x ∈ S' → x ∈ S ∨ w.heap.size ≤ x) : BS S' w v l := by
  obtain ⟨a, c, hv, hl, h⟩ := h
  refine ⟨a, c, hv, hl, h.imp id ?_⟩
  rintro ⟨b, o, ha, hb, hseg⟩
  exact ⟨b, o, ha, fun hm => (hs b hm).elim hb (fun h2 => absurd hseg.lt (Nat.not_lt.2 h2)), hseg⟩
theorem BS.nil (S : List Nat) (w : World) : BS S w (.slice none 0 0) [] := ⟨none, 0, rfl, Nat.le_refl _, .inl ⟨rfl, rfl, rfl⟩⟩
theorem BS.of_seg {S : List Nat} {w : World} {b o n c : Nat} {l : Bs} (h : Seg w b o l) (hn : l.length = n) (hc : n ≤ c) (hb : b ∉ S) : BS S w (.slice (some ⟨b, o, none⟩) n c) l :=
  ⟨_, c, by rw [hn], by omega, .inr ⟨b, o, rfl, hb, h⟩⟩
theorem BS.len {S : List Nat} {w : World} {a : Option Addr} {n c : Nat} {l : Bs} (h : BS S w (.slice a n c) l) : n = l.length ∧ n ≤ c := by
  obtain ⟨a', c', hv, hl, _⟩ := h; cases hv; exact ⟨rfl, hl⟩
theorem BS.drop {S : List Nat} {w : World} {a : Option Addr} {n c : Nat} {l : Bs} (h : BS S w (.slice a n c) l) (k : Nat) (hk : k ≤ n) : BS S w (.slice (subA a c k) (n - k) (c - k)) (l.drop k) := by
  obtain ⟨a', c', hv, hl, h⟩ := h
  cases hv
  refine ⟨_, _, by rw [List.length_drop], by simp; omega, ?_⟩
  rcases h with ⟨rfl, rfl, rfl⟩ | ⟨b, o, rfl, hb, hs⟩
  · left; simp at hk; subst hk; simp [subA]
  · right
    by_cases hck : k < c
    · exact ⟨b, o + k, subA_some b o c k hck, hb, hs.drop k⟩
    · have : l.length = k := by omega
      refine ⟨b, o, by unfold subA; rw [if_pos (by omega)], hb, ?_⟩
      rw [List.drop_eq_nil_of_le (by omega)]
      exact .nil hs.lt
theorem BS.take {S : List Nat} {w : World} {a : Option Addr} {n c : Nat} {l : Bs} (h : BS S w (.slice a n c) l) (k : Nat) (hk : k ≤ n) : BS S w (.slice a k c) (l.take k) := by
  obtain ⟨a', c', hv, hl, h⟩ := h
  cases hv
  have e : (l.take k).length = k := by simp; omega
  refine ⟨_, _, by rw [e], by omega, ?_⟩
  rcases h with ⟨rfl, rfl, rfl⟩ | ⟨b, o, rfl, hb, hs⟩
  · left; simp
  · right; exact ⟨b, o, rfl, hb, hs.take k⟩
/-- its cell i -/
theorem BS.at_ {S : List Nat} {w : World} {a : Option Addr} {n c : Nat} {l : Bs} (h : BS S w (.slice a n c) l) (hne : 0 < n) :
    ∃ b o, a = some ⟨b, o, none⟩ ∧ b ∉ S ∧ Seg w b o l := by
  obtain ⟨a', c', hv, hl, h⟩ := h
  cases hv
  rcases h with ⟨rfl, rfl, rfl⟩ | h
  · simp at hne
  · exact h

/-- bytes as a string -/
def bstr (l : Bs) : ByteArray := ⟨l.toArray⟩
@[go_sem] theorem bstr_size (l : Bs) : (bstr l).size = l.length := by simp [bstr, ByteArray.size]
@[go_sem] theorem bstr_toList (l : Bs) : (bstr l).toList = l := by rw [ByteArray.toList_eq]; simp [bstr]
theorem bstr_data (l : Bs) : (bstr l).data.toList = l := by simp [bstr]
theorem bstr_of (s : ByteArray) : bstr s.data.toList = s := by cases s; simp [bstr]
theorem bstr_inj {a b : Bs} (h : bstr a = bstr b) : a = b := by have := congrArg ByteArray.toList h; rwa [bstr_toList, bstr_toList] at this

/-! slices of bytes in a walk: by 'subA' -/
theorem slice22_l (a : Option Addr) (n c : Nat) (k : IntKind) (l : Int) (h0 : 0 ≤ l) (h1 : l ≤ n) (w : World) :
    (Instr.slice 22 (.slice a n c) (some (.int k l)) none none).run Tryz.prog w = .ok (.slice (subA a c l.toNat) (n - l.toNat) (c - l.toNat)) w := by
  have := run_slice_l (P := Tryz.prog) w 22 a n c (by kernel_rfl) k l h0 h1
  rw [this]
  have hz : (sizeOf (Tryz.prog.elem 22)).run Tryz.prog w = .ok 1 w := by kernel_rfl
  rw [hz]; simp [Result.andThen, sliced, subA]
theorem slice22_h (a : Option Addr) (n c : Nat) (k : IntKind) (h : Int) (h0 : 0 ≤ h) (h1 : h ≤ c) (w : World) :
    (Instr.slice 22 (.slice a n c) none (some (.int k h)) none).run Tryz.prog w = .ok (.slice a h.toNat c) w := by
  have := run_slice_h (P := Tryz.prog) w 22 a n c (by kernel_rfl) k h h0 h1
  rw [this]
  have hz : (sizeOf (Tryz.prog.elem 22)).run Tryz.prog w = .ok 1 w := by kernel_rfl
  rw [hz]
  have e : subA a c 0 = a := subA_zero a c
  unfold subA at e
  simp [Result.andThen, sliced, e]
theorem slice22_lh (a : Option Addr) (n c : Nat) (k k' : IntKind) (l h : Int) (h0 : 0 ≤ l) (h1 : l ≤ h) (h2 : h ≤ c) (w : World) :
    (Instr.slice 22 (.slice a n c) (some (.int k l)) (some (.int k' h)) none).run Tryz.prog w = .ok (.slice (subA a c l.toNat) (h.toNat - l.toNat) (c - l.toNat)) w := by
  have := run_slice_lh (P := Tryz.prog) w 22 a n c (by kernel_rfl) k k' l h h0 h1 h2
  rw [this]
  have hz : (sizeOf (Tryz.prog.elem 22)).run Tryz.prog w = .ok 1 w := by kernel_rfl
  rw [hz]; simp [Result.andThen, sliced, subA]

end Go.Proofs.YtekndndhgkdggaaGreatDoor

namespace Go.Proofs.YtekndndhgkdggaaGreatDoor
open Go.RowKit

theorem u8i (c d : UInt8) (n : Int) (h : n = (d.toNat : Int)) : ((c.toNat : Int) == n) = (c == d) := by
  subst h
  rw [Bool.eq_iff_iff, beq_iff_eq, beq_iff_eq, ← UInt8.toNat_inj]
  omega
theorem u8le (c d : UInt8) (n : Int) (h : n = (d.toNat : Int)) : decide (c ≤ d) = decide ((c.toNat : Int) ≤ n) := by
  subst h
  rw [decide_eq_decide, UInt8.le_iff_toNat_le]; omega
theorem u8ge (c d : UInt8) (n : Int) (h : n = (d.toNat : Int)) : decide (d ≤ c) = decide (n ≤ (c.toNat : Int)) := by
  subst h
  rw [decide_eq_decide, UInt8.le_iff_toNat_le]; omega
theorem ret_bool {a b : Bool} (h : a = b) : Ending.returned (.bool a) = .returned (.bool b) := by rw [h]

theorem blank_eq (c : UInt8) : blankB c = (((c.toNat : Int) == 32) || ((c.toNat : Int) == 9)) := by
  rw [u8i c 32 32 rfl, u8i c 9 9 rfl]; rfl

set_option maxRecDepth 100000 in
set_option maxHeartbeats 400000 in
theorem blank_any (c : UInt8) (w : World) : Calls Tryz.prog 26 #[bv c] w fun e w' => e = .returned (.bool (blankB c)) ∧ w = w' := by
  rw [blank_eq]
  go_enter Tryz.func26, Tryz.ntmps26
  go_wp2
  all_goals
    go_ret
    exact ⟨ret_bool (by simp_all), rfl⟩

theorem valued_eq (c : UInt8) : valuedB c = ((decide (32 ≤ (c.toNat : Int)) && !((c.toNat : Int) == 127)) || ((c.toNat : Int) == 9)) := by
  rw [u8i c 127 127 rfl, u8i c 9 9 rfl, ← u8ge c 32 32 rfl]; rfl

set_option maxRecDepth 100000 in
set_option maxHeartbeats 400000 in
theorem valued_any (c : UInt8) (w : World) : Calls Tryz.prog 30 #[bv c] w fun e w' => e = .returned (.bool (valuedB c)) ∧ w = w' := by
  rw [valued_eq]
  go_enter Tryz.func30, Tryz.ntmps30
  go_wp2
  all_goals
    go_ret
    exact ⟨ret_bool (by first | (simp_all; done) | (simp_all; omega)), rfl⟩

/-- string(b) of a slice of bytes -/
theorem conv22_9 {S : List Nat} {w : World} {v : Value} {l : Bs} (h : BS S w v l) : (convert 22 9 v).run Tryz.prog w = .ok (.string (bstr l)) w := by
  obtain ⟨a, c, rfl, hl, h⟩ := h
  rcases h with ⟨rfl, rfl, rfl⟩ | ⟨b, o, rfl, hb, hs⟩
  · exact run_convert_bytes_nil (P := Tryz.prog) w 22 5 (by kernel_rfl) (by kernel_rfl) _ _ 9 (by kernel_rfl)
  · have := run_convert_bytes_arg (P := Tryz.prog) w 22 5 (by kernel_rfl) (by kernel_rfl) b o l.length c (l.map fun c => (c.toNat : Int)) (by simp) (fun i hi => by
      rw [hs.cell i hi]; simp [bv, List.getD, hi]) 9 (by kernel_rfl)
    rw [this]
    simp [strOfNums, bstr, Function.comp_def]

theorem begB_eq (l p : Bs) : (l.take p.length == p) = begB l p := by
  rw [Bool.eq_iff_iff, beq_iff_eq]
  unfold begB
  rw [List.isPrefixOf_iff_prefix, List.prefix_iff_eq_take]
  exact eq_comm
theorem begB_short (l p : Bs) (h : l.length < p.length) : begB l p = false := by
  unfold begB
  rw [Bool.eq_false_iff]
  intro e
  rw [List.isPrefixOf_iff_prefix] at e
  have := e.length_le
  omega

set_option maxRecDepth 100000 in
set_option maxHeartbeats 400000 in
theorem begins_any {S : List Nat} {w : World} {v : Value} {l : Bs} (p : Bs) (h : BS S w v l) (_hl : l.length ≤ 100000) (hp : p.length ≤ 100000) :
    Calls Tryz.prog 32 #[v, .string (bstr p)] w fun e w' => e = .returned (.bool (begB l p)) ∧ w = w' := by
  obtain ⟨a, c, rfl, hlc, _⟩ := id h
  by_cases hle : p.length ≤ l.length
  · have hconv := conv22_9 (h.take p.length hle)
    rw [← begB_eq l p]
    have hcap : (p.length : Int) ≤ c := by omega
    have hsl := slice22_h a l.length c .i64 p.length (by omega) hcap w
    rw [Int.toNat_natCast] at hsl
    go_enter Tryz.func32, Tryz.ntmps32
    go_wp2
    go_ret
    exact ⟨rfl, rfl⟩
  · rw [begB_short l p (by omega)]
    go_enter Tryz.func32, Tryz.ntmps32
    go_wp2
    go_ret
    exact ⟨rfl, rfl⟩

def lenV : Value → Nat | .slice _ n _ => n | _ => 0

theorem dropBl_nil : dropBl [] = [] := rfl
theorem dropBl_cons (c : UInt8) (r : Bs) : dropBl (c :: r) = if blankB c then dropBl r else c :: r := by
  unfold dropBl; rw [List.dropWhile_cons]

/-- the facts of a slice that holds at least one byte -/
theorem BS.cons {S : List Nat} {w : World} {a : Option Addr} {n c : Nat} {d : UInt8} {r : Bs} (h : BS S w (.slice a n c) (d :: r)) :
    n = r.length + 1 ∧ r.length + 1 ≤ c ∧ ∃ b o, a = some ⟨b, o, none⟩ ∧ w.cell? ⟨b, o, none⟩ = some (bv d) ∧ BS S w (.slice (subA (some ⟨b, o, none⟩) c 1) r.length (c - 1)) r := by
  obtain ⟨h1, h2⟩ := h.len
  simp only [List.length_cons] at h1
  subst h1
  obtain ⟨b, o, rfl, hb, hs⟩ := h.at_ (by omega)
  refine ⟨rfl, h2, b, o, rfl, ?_, ?_⟩
  · have := hs.cell 0 (by simp); simpa using this
  · have := h.drop 1 (by omega); simpa using this

set_option maxRecDepth 100000 in
set_option maxHeartbeats 400000 in
theorem behind_any {S : List Nat} {w : World} {v : Value} {l : Bs} (p : Bs) (h : BS S w v l) (hl : l.length ≤ 100000) (hp : p.length ≤ 100000) :
    Calls Tryz.prog 40 #[v, .string (bstr p)] w fun e w' => (∃ u, e = .returned (.tuple #[u, .bool (behindB l p).isSome]) ∧ BS S w u ((behindB l p).getD [])) ∧ w = w' := by
  unfold behindB
  obtain ⟨a, c, rfl, hlc, _⟩ := id h
  cases hbg : begB l p
  · have HB := Lib.hid hbg; clear hbg
    go_enter Tryz.func40, Tryz.ntmps40
    go_wp2_with (go_at_call 32; refine (begins_any p h hl hp).mono ?_; rintro e w' ⟨rfl, rfl⟩; rw [HB.out])
    go_ret2
    exact ⟨⟨_, rfl, BS.nil _ _⟩, rfl⟩
  · have hle : p.length ≤ l.length := by
      rcases Nat.lt_or_ge l.length p.length with h2 | h2
      · rw [begB_short l p h2] at hbg; cases hbg
      · exact h2
    have hsl := slice22_l a l.length c .i64 p.length (by omega) (by omega) w
    have hd := Lib.hid (h.drop p.length hle)
    rw [Int.toNat_natCast] at hsl
    have hlen : (l.drop p.length).length ≤ 100000 := by simp; omega
    have HB := Lib.hid hbg; clear hbg
    generalize hq : l.drop p.length = q at *
    have HQ := Lib.hid hq; clear hq
    go_enter Tryz.func40, Tryz.ntmps40
    go_wp2_with (go_at_call 32; refine (begins_any p h hl hp).mono ?_; rintro e w' ⟨rfl, rfl⟩; rw [HB.out])
    clear hsl h hlc hle
    go_loop [0] (fun v => ∃ m, BS S w v m ∧ m.length ≤ 100000 ∧ Hid (dropBl m = dropBl q)) (fun v => lenV v)
    case atStart => exact ⟨_, hd.out, hlen, rfl⟩
    case round =>
      obtain ⟨m, hm, hml, hmq⟩ := hrel
      obtain ⟨a1, c1, rfl, hc1, _⟩ := id hm
      cases m with
      | nil =>
        simp only [List.length_nil] at *
        go_wp2
        go_ret2
        refine ⟨⟨_, rfl, ?_⟩, rfl⟩
        show BS S w _ (dropBl q)
        rw [← hmq.out]; exact hm
      | cons d r =>
        obtain ⟨_, _, b, o, rfl, hcell, hr⟩ := hm.cons
        have hsl : (Instr.slice 22 (.slice (some ⟨b, o, none⟩) (r.length + 1) c1) (some (.int .i64 1)) none none).run Tryz.prog w = .ok (.slice (subA (some ⟨b, o, none⟩) c1 1) r.length (c1 - 1)) w := slice22_l (some ⟨b, o, none⟩) (r.length + 1) c1 .i64 1 (by omega) (by omega) w
        simp only [List.length_cons] at *
        have hr := Lib.hid hr
        cases hbl : blankB d
        · have HBL := Lib.hid hbl; clear hbl
          go_wp2_with (go_at_call 26; refine (blank_any d _).mono ?_; rintro e w' ⟨rfl, rfl⟩; rw [HBL.out])
          go_ret2
          refine ⟨⟨_, rfl, ?_⟩, rfl⟩
          show BS S w _ (dropBl q)
          rw [← hmq.out, dropBl_cons, HBL.out]; exact hm
        · have HBL := Lib.hid hbl; clear hbl
          go_wp2_with (go_at_call 26; refine (blank_any d _).mono ?_; rintro e w' ⟨rfl, rfl⟩; rw [HBL.out])
          go_round
          case rel =>
            refine ⟨r, hr.out, by omega, ?_⟩
            have := hmq.out
            rw [dropBl_cons, HBL.out] at this; exact this
          case measure => simp [lenV]
end Go.Proofs.YtekndndhgkdggaaGreatDoor

namespace Go.Proofs.YtekndndhgkdggaaGreatDoor
open Go.RowKit

/-- none of the first k is c -/
def NoB (c : UInt8) (l : Bs) (k : Nat) : Prop := ∀ j, j < k → l.getD j 0 ≠ c

theorem NoB.zero (c : UInt8) (l : Bs) : NoB c l 0 := fun j h => by cases h
theorem NoB.succ {c : UInt8} {l : Bs} {k : Nat} (h : NoB c l k) (hk : l.getD k 0 ≠ c) : NoB c l (k + 1) := fun j hj => by
  by_cases e : j = k
  · subst e; exact hk
  · exact h j (by omega)

theorem takeLine_at : ∀ (l : Bs) (k : Nat), NoB 10 l k → k < l.length → l.getD k 0 = 10 → takeLine l = (l.take (k + 1), l.drop (k + 1), true)
  | [], _, _, h, _ => by cases h
  | c :: r, 0, _, _, h => by
    have : c = 10 := by simpa using h
    subst this; simp [takeLine]
  | c :: r, k + 1, hn, hk, h => by
    have hc : c ≠ 10 := by have := hn 0 (by omega); simpa using this
    have ih := takeLine_at r k (fun j hj => by have := hn (j + 1) (by omega); simpa using this) (by simp at hk; omega) (by simpa using h)
    rw [takeLine, if_neg hc, ih]; simp
theorem takeLine_none (l : Bs) (h : NoB 10 l l.length) : takeLine l = (l, [], false) := by
  induction l with
  | nil => rfl
  | cons c r ih =>
    have hc : c ≠ 10 := by have := h 0 (by simp); simpa using this
    rw [takeLine, if_neg hc, ih (fun j hj => by have := h (j + 1) (by simp; omega); simpa using this)]

/-- the reference's reading at block RB: what is left, the boundary, the end of lines, how many parts -/
def RdS (S : List Nat) (w : World) (RB : Nat) (l bd nl : Bs) (parts : Nat) : Prop :=
  RB ∉ S ∧ ∃ v, Blk w RB #[v, .string (bstr bd), .string (bstr nl), .int .i64 parts] 36 ∧ BS (RB :: S) w v l

theorem RdS.chg {S : List Nat} {w w' : World} {RB : Nat} {l bd nl : Bs} {parts : Nat} (h : RdS S w RB l bd nl parts) (hc : Chg S w w') : RdS S w' RB l bd nl parts := by
  obtain ⟨hn, v, hb, hs⟩ := h
  obtain ⟨a, c, hv, hl, hs⟩ := hs
  refine ⟨hn, v, hb.chg hc hn, a, c, hv, hl, hs.imp id ?_⟩
  rintro ⟨b, o, ha, hb, hseg⟩
  exact ⟨b, o, ha, hb, hseg.chg hc (fun hm => hb (by simp [hm]))⟩

theorem bv10 {d : UInt8} (h : d ≠ 10) : ((d.toNat : Int) == 10) = false := by rw [u8i d 10 10 rfl]; simpa using h
theorem bv10' {d : UInt8} (h : d = 10) : ((d.toNat : Int) == 10) = true := by rw [u8i d 10 10 rfl]; simpa using h

set_option maxRecDepth 100000 in
set_option maxHeartbeats 400000 in
theorem line_any {S : List Nat} {w : World} {RB : Nat} {l bd nl : Bs} {parts : Nat} (h : RdS S w RB l bd nl parts) (hl : l.length ≤ 100000) :
    Calls Tryz.prog 23 #[.pointer (some ⟨RB, 0, none⟩)] w fun e w' => (∃ u, e = .returned (.tuple #[u, .bool (takeLine l).2.2]) ∧ BS (RB :: S) w' u (takeLine l).1) ∧
      RdS S w' RB (takeLine l).2.1 bd nl parts ∧ Chg [RB] w w' := by
  obtain ⟨hn, v, hb, hs⟩ := h
  obtain ⟨a, c, rfl, hlc, _⟩ := id hs
  have g0 : w.cell? ⟨RB, 0, none⟩ = some (.slice a l.length c) := hb.cell 0
  have g1 : w.frozen? ⟨RB, 0, none⟩ = false := hb.free 0
  have fin : ∀ (v' : Value), Chg [RB] w (w.setCell ⟨RB, 0, none⟩ v') := fun v' => (Chg.refl _ _).setCell (by simp) _
  have fin2 : ∀ (v' : Value) (m : Bs), BS (RB :: S) w v' m → BS (RB :: S) (w.setCell ⟨RB, 0, none⟩ v') v' m := fun v' m hv => hv.chg ((fin v').mono (by simp))
  have fin3 : ∀ (v' u : Value) (m : Bs), BS (RB :: S) w u m → BS (RB :: S) (w.setCell ⟨RB, 0, none⟩ v') u m := fun v' u m hv => hv.chg ((fin v').mono (by simp))
  have fin4 : ∀ (v' : Value) (m : Bs), BS (RB :: S) w v' m → RdS S (w.setCell ⟨RB, 0, none⟩ v') RB m bd nl parts := fun v' m hv =>
    ⟨hn, v', hb.set 0 v', fin2 v' m hv⟩
  have HS := Lib.hid hs; clear hs
  have F := Lib.hid (And.intro fin (And.intro fin3 fin4)); clear fin fin2 fin3 fin4
  go_enter Tryz.func23, Tryz.ntmps23
  go_wp2
  go_loop [12] (fun i => ∃ k : Nat, k ≤ l.length ∧ i = .int .i64 k ∧ NoB 10 l k) (fun i => l.length - (intOf i).toNat)
  case atStart => exact ⟨0, Nat.zero_le _, rfl, NoB.zero _ _⟩
  case round =>
    obtain ⟨k, hk, rfl, hno⟩ := hrel
    by_cases hlt : k < l.length
    · obtain ⟨b, o, rfl, _, hseg⟩ := HS.out.at_ (by omega)
      have hcell := hseg.cell k hlt
      generalize hd : l.getD k 0 = d at hcell
      have HD := Lib.hid hd; clear hd
      by_cases ht : d = 10
      · have ht' := bv10' ht
        have HT := Lib.hid ht; clear ht
        have s1 : (Instr.slice 22 (.slice (some ⟨b, o, none⟩) l.length c) none (some (.int .i64 ((k : Int) + 1))) none).run Tryz.prog w = .ok (.slice (some ⟨b, o, none⟩) (k + 1) c) w :=
          slice22_h (some ⟨b, o, none⟩) l.length c .i64 ((k : Int) + 1) (by omega) (by omega) w
        have s2 : (Instr.slice 22 (.slice (some ⟨b, o, none⟩) l.length c) (some (.int .i64 ((k : Int) + 1))) none none).run Tryz.prog w = .ok (.slice (subA (some ⟨b, o, none⟩) c (k + 1)) (l.length - (k + 1)) (c - (k + 1))) w :=
          slice22_l (some ⟨b, o, none⟩) l.length c .i64 ((k : Int) + 1) (by omega) (by omega) w
        go_wp2
        go_ret2
        have e := takeLine_at l k hno hlt (HD.out.trans HT.out)
        rw [e]
        have t1 := HS.out.take (k + 1) (by omega)
        have t2 := HS.out.drop (k + 1) (by omega)
        exact ⟨⟨_, rfl, F.out.2.1 _ _ _ t1⟩, F.out.2.2 _ _ t2, F.out.1 _⟩
      · have ht' := bv10 ht
        have HT := Lib.hid ht; clear ht
        go_wp2
        go_round
        case rel => exact ⟨k + 1, by omega, by go_num, hno.succ (by rw [HD.out]; exact HT.out)⟩
        case measure => simp [intOf]; omega
    · have hke : k = l.length := by omega
      have HKE := Lib.hid hke; clear hke
      go_wp2
      go_ret2
      have e := takeLine_none l (by rw [← HKE.out]; exact hno)
      rw [e]
      exact ⟨⟨_, rfl, F.out.2.1 _ _ _ HS.out⟩, F.out.2.2 _ _ (BS.nil _ _), F.out.1 _⟩
end Go.Proofs.YtekndndhgkdggaaGreatDoor

namespace Go.Proofs.YtekndndhgkdggaaGreatDoor
open Go.RowKit

@[go_sem] theorem bstr_app (a b : Bs) : bstr a ++ bstr b = bstr (a ++ b) := by
  apply ByteArray.ext; simp [bstr]
@[go_sem] theorem bstr_lit (a : Bs) : (⟨a.toArray⟩ : ByteArray) = bstr a := rfl

theorem BS.drewN {S : List Nat} {w : World} {v : Value} {l : Bs} (h : BS S w v l) (n : Nat) : BS S (w.drewN n) v l := h.chg ((Chg.refl S w).drewN n)

set_option maxRecDepth 100000 in
set_option maxHeartbeats 400000 in
theorem final_any {S : List Nat} {w : World} {RB : Nat} {l bd nl : Bs} {parts : Nat} (h : RdS S w RB l bd nl parts) {v : Value} {m : Bs} (hm : BS S w v m) (hml : m.length ≤ 100000) (hbd : bd.length ≤ 1000) :
    Calls Tryz.prog 24 #[.pointer (some ⟨RB, 0, none⟩), v] w fun e w' => e = .returned (.bool (finalB bd nl m)) ∧ ∃ n, w' = w.drewN n := by
  obtain ⟨hn, vl, hb, _⟩ := h
  have g1 : w.cell? ⟨RB, 1, none⟩ = some (.string (bstr bd)) := hb.cell 1
  have g2 : w.cell? ⟨RB, 2, none⟩ = some (.string (bstr nl)) := hb.cell 2
  clear hb
  have hlen : (45 :: 45 :: (bd ++ [45, 45]) : Bs).length ≤ 100000 := by simp; omega
  have H40 := Lib.hid (behind_any (45 :: 45 :: (bd ++ [45, 45])) hm hml hlen)
  show Calls _ _ _ _ fun e w' => e = .returned (.bool (match behindB m (45 :: 45 :: (bd ++ [45, 45])) with | some rest => rest == [] || rest == nl | none => false)) ∧ ∃ n, w' = w.drewN n
  generalize hq : behindB m (45 :: 45 :: (bd ++ [45, 45])) = q at H40 ⊢
  have HQ := Lib.hid hq; clear hq hlen
  cases q with
  | none =>
    go_enter Tryz.func24, Tryz.ntmps24
    go_wp2_with fail
    refine H40.out.mono ?_
    rintro e w' ⟨⟨u, rfl, _⟩, rfl⟩
    go_wp2
    go_quiet (fail)
    go_wp2
    go_ret
    exact ⟨rfl, _, rfl⟩
  | some rest =>
    go_enter Tryz.func24, Tryz.ntmps24
    go_wp2_with fail
    refine H40.out.mono ?_
    rintro e w' ⟨⟨u, rfl, hu⟩, rfl⟩
    have hconv := fun n => conv22_9 (hu.drewN n)
    obtain ⟨a, c, rfl, hlc, _⟩ := id hu
    have HU := Lib.hid hu; clear hu
    simp only [Option.getD_some, Option.isSome_some] at *
    cases rest with
    | nil =>
      simp only [List.length_nil] at *
      go_wp2
      go_quiet (fail)
      go_wp2
      go_ret
      exact ⟨rfl, _, rfl⟩
    | cons d r =>
      have hz : (((d :: r : Bs).length : Int) == 0) = false := by simp; omega
      generalize hr : (d :: r : Bs) = rest at *
      have HR := Lib.hid hr; clear hr
      go_wp2
      go_quiet (fail)
      go_wp2
      go_ret
      refine ⟨ret_bool ?_, _, rfl⟩
      rw [← HR.out]; simp

set_option maxRecDepth 100000 in
set_option maxHeartbeats 400000 in
theorem delim_any {S : List Nat} {w : World} {RB : Nat} {l bd nl : Bs} {parts : Nat} (h : RdS S w RB l bd nl parts) {v : Value} {m : Bs} (hm : BS (RB :: S) w v m) (hml : m.length ≤ 100000) (hbd : bd.length ≤ 1000) :
    Calls Tryz.prog 25 #[.pointer (some ⟨RB, 0, none⟩), v] w fun e w' => e = .returned (.bool (delimB bd (nlB bd nl parts m) m)) ∧ RdS S w' RB l bd (nlB bd nl parts m) parts ∧ Chg [RB] w w' := by
  have hh := Lib.hid h
  obtain ⟨hn, vl, hb, hl⟩ := h
  have g1 : w.cell? ⟨RB, 1, none⟩ = some (.string (bstr bd)) := hb.cell 1
  have g2 : w.cell? ⟨RB, 2, none⟩ = some (.string (bstr nl)) := hb.cell 2
  have g3 : w.cell? ⟨RB, 3, none⟩ = some (.int .i64 parts) := hb.cell 3
  have f2 : w.frozen? ⟨RB, 2, none⟩ = false := hb.free 2
  have HB := Lib.hid hb
  have HL := Lib.hid hl
  clear hb hl
  have hlen : (45 :: 45 :: bd : Bs).length ≤ 100000 := by simp; omega
  have H40 := Lib.hid (behind_any (45 :: 45 :: bd) hm hml hlen)
  show Calls _ _ _ _ fun e w' => e = .returned (.bool (match behindB m (45 :: 45 :: bd) with | some rest => rest == nlB bd nl parts m | none => false)) ∧ RdS S w' RB l bd (nlB bd nl parts m) parts ∧ Chg [RB] w w'
  have hnl : nlB bd nl parts m = match behindB m (45 :: 45 :: bd) with | some rest => if parts = 0 ∧ rest = [10] then [10] else nl | none => nl := rfl
  rw [hnl]; clear hnl
  generalize hq : behindB m (45 :: 45 :: bd) = q at H40 ⊢
  clear hq hlen
  have same : ∀ n, RdS S (w.drewN n) RB l bd nl parts ∧ Chg [RB] w (w.drewN n) := fun n => ⟨hh.out.chg ((Chg.refl S w).drewN n), (Chg.refl _ w).drewN n⟩
  have SAME := Lib.hid same; clear same
  cases q with
  | none =>
    go_enter Tryz.func25, Tryz.ntmps25
    go_wp2_with fail
    refine H40.out.mono ?_
    rintro e w' ⟨⟨u, rfl, _⟩, rfl⟩
    go_wp2
    go_quiet (fail)
    go_wp2
    go_ret
    exact ⟨rfl, SAME.out _⟩
  | some rest =>
    by_cases hset : parts = 0 ∧ rest = [10]
    · obtain ⟨rfl, rfl⟩ := hset
      have hset : RdS S (w.setCell ⟨RB, 2, none⟩ (.string (bstr [10]))) RB l bd [10] 0 := by
        refine ⟨hn, vl, HB.out.set 2 _, ?_⟩
        exact HL.out.chg (S := RB :: S) ((Chg.refl _ w).setCell (by simp) _)
      have HSET := Lib.hid hset; clear hset
      go_enter Tryz.func25, Tryz.ntmps25
      go_wp2_with fail
      refine H40.out.mono ?_
      rintro e w' ⟨⟨u, rfl, hu⟩, rfl⟩
      have hconv := conv22_9 hu
      have hconv2 := fun n => conv22_9 ((hu.chg (S := RB :: S) ((Chg.refl _ w).setCell (p := ⟨RB, 2, none⟩) (by simp) (.string (bstr [10])))).drewN n)
      have HU := Lib.hid hu; clear hu
      simp only [Option.getD_some, Option.isSome_some] at *
      go_wp2
      go_quiet (fail)
      go_wp2
      go_ret
      exact ⟨ret_bool (by simp), HSET.out.chg ((Chg.refl S _).drewN _), ((Chg.refl _ w).setCell (by simp) _).drewN _⟩
    · have hcs : (match some rest with | some rest => if parts = 0 ∧ rest = [10] then [10] else nl | none => nl) = nl := by simp only [if_neg hset]
      rw [hcs]; clear hcs
      by_cases hp : parts = 0
      · have hr : (rest == [10]) = false := by rw [beq_eq_false_iff_ne]; exact fun e => hset ⟨hp, e⟩
        subst hp
        clear hset
        go_enter Tryz.func25, Tryz.ntmps25
        go_wp2_with fail
        refine H40.out.mono ?_
        rintro e w' ⟨⟨u, rfl, hu⟩, rfl⟩
        have hconv := fun n => conv22_9 (hu.drewN n)
        have hconv0 := conv22_9 hu
        have HU := Lib.hid hu; clear hu
        simp only [Option.getD_some, Option.isSome_some] at *
        go_wp2
        go_quiet (fail)
        go_wp2
        go_ret
        exact ⟨ret_bool (by simp), SAME.out _⟩
      · have hr : ((parts : Int) == 0) = false := by rw [beq_eq_false_iff_ne]; omega
        have HP := Lib.hid hp; clear hp hset
        go_enter Tryz.func25, Tryz.ntmps25
        go_wp2_with fail
        refine H40.out.mono ?_
        rintro e w' ⟨⟨u, rfl, hu⟩, rfl⟩
        have hconv := fun n => conv22_9 (hu.drewN n)
        have hconv0 := conv22_9 hu
        have HU := Lib.hid hu; clear hu
        simp only [Option.getD_some, Option.isSome_some] at *
        go_wp2
        go_quiet (fail)
        go_wp2
        go_ret
        exact ⟨ret_bool (by simp), SAME.out _⟩

theorem chomp_app (x : Bs) : chompB (x ++ [10]) = if x.getLast? = some 13 then x.dropLast else x := by
  unfold chompB
  simp

theorem getLast_getD (x : Bs) (h : 0 < x.length) : x.getLast? = some (x.getD (x.length - 1) 0) := by
  rw [List.getLast?_eq_getElem?]
  simp [List.getD, List.getElem?_eq_getElem (show x.length - 1 < x.length by omega)]

theorem takeLine_true {l : Bs} (h : (takeLine l).2.2 = true) : ∃ x, (takeLine l).1 = x ++ [10] := by
  induction l with
  | nil => simp [takeLine] at h
  | cons c r ih =>
    unfold takeLine at h ⊢
    split at h
    · rename_i hc; rw [if_pos hc]; exact ⟨[], by simp [hc]⟩
    · rename_i hc; rw [if_neg hc]
      obtain ⟨x, hx⟩ := ih h
      exact ⟨c :: x, by simp [hx]⟩

theorem bv13 {d : UInt8} (h : d ≠ 13) : ((d.toNat : Int) == 13) = false := by rw [u8i d 13 13 rfl]; simpa using h
theorem bv13' {d : UInt8} (h : d = 13) : ((d.toNat : Int) == 13) = true := by rw [u8i d 13 13 rfl]; simpa using h

theorem takeLine_le (l : Bs) : (takeLine l).1.length ≤ l.length := by have := takeLine_len l; omega

set_option maxRecDepth 100000 in
set_option maxHeartbeats 400000 in
theorem headLine_any {S : List Nat} {w : World} {RB : Nat} {l bd nl : Bs} {parts : Nat} (h : RdS S w RB l bd nl parts) (hl : l.length ≤ 100000) :
    Calls Tryz.prog 27 #[.pointer (some ⟨RB, 0, none⟩)] w fun e w' => (∃ u, e = .returned (.tuple #[u, .bool (headLineB l).isSome]) ∧ BS (RB :: S) w' u ((headLineB l).getD ([], [])).1) ∧
      RdS S w' RB ((headLineB l).getD ([], [])).2 bd nl parts ∧ Chg [RB] w w' := by
  have hh := Lib.hid h
  have hli := Lib.hid (line_any h hl)
  obtain ⟨hn, v, hb, hs⟩ := h
  obtain ⟨a, c, rfl, hlc, _⟩ := id hs
  have g0 : w.cell? ⟨RB, 0, none⟩ = some (.slice a l.length c) := hb.cell 0
  clear hb
  unfold headLineB
  by_cases he : l = []
  · subst he
    rw [if_pos rfl]
    simp only [List.length_nil] at *
    go_enter Tryz.func27, Tryz.ntmps27
    go_wp2
    go_ret2
    exact ⟨⟨_, rfl, BS.nil _ _⟩, hh.out, Chg.refl _ _⟩
  · rw [if_neg he]
    have hz : ((l.length : Int) == 0) = false := by rw [beq_eq_false_iff_ne]; have := List.length_pos_iff.2 he; omega
    have htl := takeLine_le l
    have htt := @takeLine_true l
    generalize ht : takeLine l = t at *
    obtain ⟨x, r, en⟩ := t
    clear ht he hs
    simp only [Option.getD_some, Option.isSome_some] at *
    cases en with
    | false =>
      clear htt
      go_enter Tryz.func27, Tryz.ntmps27
      go_wp2_with fail
      refine hli.out.mono ?_
      rintro e w' ⟨⟨u, rfl, hu⟩, hrd, hch⟩
      have HU := Lib.hid (And.intro hu (And.intro hrd hch)); clear hu hrd hch
      go_wp2
      go_ret2
      exact ⟨⟨_, rfl, HU.out.1⟩, HU.out.2⟩
    | true =>
      obtain ⟨y, rfl⟩ := htt rfl
      simp only [if_true, chomp_app]
      have hyl : y.length ≤ 100000 := by simp at htl; omega
      generalize hzz : (if y.getLast? = some 13 then y.dropLast else y) = z
      have HZ := Lib.hid hzz; clear hzz
      clear htt
      go_enter Tryz.func27, Tryz.ntmps27
      go_wp2_with fail
      refine hli.out.mono ?_
      rintro e w' ⟨⟨u, rfl, hu⟩, hrd, hch⟩
      have HU := Lib.hid (And.intro hrd hch); clear hrd hch
      obtain ⟨a1, c1, rfl, hc1, _⟩ := id hu
      have ht := hu.take y.length (by simp)
      rw [List.take_left] at ht
      have HT := Lib.hid ht; clear ht
      have s1 : (Instr.slice 22 (.slice a1 (y ++ [10]).length c1) none (some (.int .i64 (y.length : Int))) none).run Tryz.prog w' = .ok (.slice a1 y.length c1) w' :=
        slice22_h a1 (y ++ [10]).length c1 .i64 (y.length : Int) (by omega) (by simp at hc1; omega) w'
      clear hu
      simp only [List.length_append, List.length_cons, List.length_nil, Nat.zero_add] at *
      by_cases hy : y = []
      · subst hy
        simp only [List.length_nil] at *
        go_wp2
        go_ret2
        refine ⟨⟨_, rfl, ?_⟩, HU.out⟩
        rw [← HZ.out]; exact HT.out
      · have hpos := List.length_pos_iff.2 hy
        clear hy
        have hlast := getLast_getD y hpos
        obtain ⟨b, o, rfl, _, hseg⟩ := HT.out.at_ hpos
        have hcell := hseg.cell (y.length - 1) (by omega)
        generalize y.getD (y.length - 1) 0 = d at *
        have HL := Lib.hid hlast; clear hlast hseg
        have hidx : ((y.length : Int) - 1).toNat = y.length - 1 := by omega
        by_cases hd : d = 13
        · have hd' := bv13' hd
          have HD := Lib.hid hd; clear hd
          have ht2 := HT.out.take (y.length - 1) (by omega)
          have s2 : (Instr.slice 22 (.slice (some ⟨b, o, none⟩) y.length c1) none (some (.int .i64 ((y.length : Int) - 1))) none).run Tryz.prog w' = .ok (.slice (some ⟨b, o, none⟩) (y.length - 1) c1) w' := by
            rw [slice22_h (some ⟨b, o, none⟩) y.length c1 .i64 ((y.length : Int) - 1) (by omega) (by omega) w', hidx]
          have HT2 := Lib.hid ht2; clear ht2
          go_wp2
          go_ret2
          refine ⟨⟨_, rfl, ?_⟩, HU.out⟩
          rw [← HZ.out, HL.out, HD.out, if_pos rfl, List.dropLast_eq_take]; exact HT2.out
        · have hd' := bv13 hd
          have HD := Lib.hid hd; clear hd
          go_wp2
          go_ret2
          refine ⟨⟨_, rfl, ?_⟩, HU.out⟩
          rw [← HZ.out, HL.out, if_neg (fun e => HD.out (by simpa using e))]; exact HT.out
end Go.Proofs.YtekndndhgkdggaaGreatDoor

namespace Go.Proofs.YtekndndhgkdggaaGreatDoor
open Go.RowKit

theorem dropEnd_snoc (x : Bs) (c : UInt8) : dropEnd (x ++ [c]) = if blankB c then dropEnd x else x ++ [c] := by
  induction x with
  | nil => cases h : blankB c <;> simp [dropEnd, h]
  | cons d x ih =>
    cases h : blankB c
    · simp only [List.cons_append, dropEnd, ih, h]; simp
    · simp only [List.cons_append, dropEnd, ih, h]; simp

theorem BS.snoc {S : List Nat} {w : World} {a : Option Addr} {n c : Nat} {d : UInt8} {x : Bs} (h : BS S w (.slice a n c) (x ++ [d])) :
    n = x.length + 1 ∧ x.length + 1 ≤ c ∧ ∃ b o, a = some ⟨b, o, none⟩ ∧ w.cell? ⟨b, o + x.length, none⟩ = some (bv d) ∧ BS S w (.slice (some ⟨b, o, none⟩) x.length c) x := by
  obtain ⟨h1, h2⟩ := h.len
  simp only [List.length_append, List.length_cons, List.length_nil, Nat.zero_add] at h1
  subst h1
  obtain ⟨b, o, rfl, hb, hs⟩ := h.at_ (by omega)
  refine ⟨rfl, h2, b, o, rfl, ?_, ?_⟩
  · have := hs.cell x.length (by simp); simpa using this
  · have := h.take x.length (by omega); simpa using this

set_option maxRecDepth 100000 in
set_option maxHeartbeats 400000 in
theorem trimmed_any {S : List Nat} {w : World} {v : Value} {l : Bs} (h : BS S w v l) (hl : l.length ≤ 100000) :
    Calls Tryz.prog 28 #[v] w fun e w' => (∃ u, e = .returned u ∧ BS S w u (trimB l)) ∧ w = w' := by
  unfold trimB
  go_enter Tryz.func28, Tryz.ntmps28
  go_wp2
  go_loop [0] (fun v => ∃ m, BS S w v m ∧ m.length ≤ 100000 ∧ Hid (dropBl m = dropBl l)) (fun v => lenV v)
  case atStart => exact ⟨_, h, hl, rfl⟩
  case round =>
    obtain ⟨m, hm, hml, hmq⟩ := hrel
    obtain ⟨a1, c1, rfl, hc1, _⟩ := id hm
    have second : ∀ (m : Bs) (v : Value), BS S w v m → m = dropBl l → True := fun _ _ _ _ => trivial
    clear second
    cases m with
    | nil =>
      simp only [List.length_nil] at *
      go_wp2
      go_loop [0] (fun v => ∃ m, BS S w v m ∧ m.length ≤ 100000 ∧ Hid (dropEnd m = dropEnd (dropBl l))) (fun v => lenV v)
      case atStart => exact ⟨_, hm, by simp, by unfold Hid; rw [← hmq.out]; rfl⟩
      case round =>
        clear hm hmq
        obtain ⟨m, hm, hml, hmq⟩ := hrel
        obtain ⟨a1, c1, rfl, hc1, _⟩ := id hm
        rcases List.eq_nil_or_concat m with rfl | ⟨x, d, rfl⟩
        · simp only [List.length_nil] at *
          go_wp2
          go_ret
          exact ⟨⟨_, rfl, by rw [← hmq.out]; exact hm⟩, rfl⟩
        · obtain ⟨_, _, b, o, rfl, hcell, hr⟩ := BS.snoc (by rw [List.concat_eq_append] at hm; exact hm)
          have hr := Lib.hid hr
          have hm := Lib.hid hm
          simp only [List.concat_eq_append, List.length_append, List.length_cons, List.length_nil, Nat.zero_add] at *
          have hsl : (Instr.slice 22 (.slice (some ⟨b, o, none⟩) (x.length + 1) c1) none (some (.int .i64 (x.length : Int))) none).run Tryz.prog w = .ok (.slice (some ⟨b, o, none⟩) x.length c1) w := slice22_h (some ⟨b, o, none⟩) (x.length + 1) c1 .i64 (x.length : Int) (by omega) (by omega) w
          cases hbl : blankB d
          · have HBL := Lib.hid hbl; clear hbl
            go_wp2_with (go_at_call 26; refine (blank_any d _).mono ?_; rintro e w' ⟨rfl, rfl⟩; rw [HBL.out])
            go_ret
            refine ⟨⟨_, rfl, ?_⟩, rfl⟩
            rw [← hmq.out, dropEnd_snoc, HBL.out]; exact hm.out
          · have HBL := Lib.hid hbl; clear hbl
            go_wp2_with (go_at_call 26; refine (blank_any d _).mono ?_; rintro e w' ⟨rfl, rfl⟩; rw [HBL.out])
            go_round
            case rel =>
              refine ⟨x, hr.out, by omega, ?_⟩
              have := hmq.out
              rw [dropEnd_snoc, HBL.out] at this; exact this
            case measure => simp [lenV]
    | cons d r =>
      obtain ⟨_, _, b, o, rfl, hcell, hr⟩ := hm.cons
      have hsl : (Instr.slice 22 (.slice (some ⟨b, o, none⟩) (r.length + 1) c1) (some (.int .i64 1)) none none).run Tryz.prog w = .ok (.slice (subA (some ⟨b, o, none⟩) c1 1) r.length (c1 - 1)) w := slice22_l (some ⟨b, o, none⟩) (r.length + 1) c1 .i64 1 (by omega) (by omega) w
      simp only [List.length_cons] at *
      have hr := Lib.hid hr
      cases hbl : blankB d
      · have HBL := Lib.hid hbl; clear hbl
        have hm := Lib.hid hm
        go_wp2_with (go_at_call 26; refine (blank_any d _).mono ?_; rintro e w' ⟨rfl, rfl⟩; rw [HBL.out])
        clear hsl hcell
        go_loop [0] (fun v => ∃ m, BS S w v m ∧ m.length ≤ 100000 ∧ Hid (dropEnd m = dropEnd (dropBl l))) (fun v => lenV v)
        case atStart => exact ⟨_, hm.out, by simp; omega, by unfold Hid; rw [← hmq.out, dropBl_cons, HBL.out]; rfl⟩
        case round =>
          clear hm hmq hr
          obtain ⟨m, hm, hml, hmq⟩ := hrel
          obtain ⟨a1, c1, rfl, hc1, _⟩ := id hm
          rcases List.eq_nil_or_concat m with rfl | ⟨x, d, rfl⟩
          · simp only [List.length_nil] at *
            go_wp2
            go_ret
            exact ⟨⟨_, rfl, by rw [← hmq.out]; exact hm⟩, rfl⟩
          · obtain ⟨_, _, b, o, rfl, hcell, hr⟩ := BS.snoc (by rw [List.concat_eq_append] at hm; exact hm)
            have hr := Lib.hid hr
            have hm := Lib.hid hm
            simp only [List.concat_eq_append, List.length_append, List.length_cons, List.length_nil, Nat.zero_add] at *
            have hsl : (Instr.slice 22 (.slice (some ⟨b, o, none⟩) (x.length + 1) c1) none (some (.int .i64 (x.length : Int))) none).run Tryz.prog w = .ok (.slice (some ⟨b, o, none⟩) x.length c1) w := slice22_h (some ⟨b, o, none⟩) (x.length + 1) c1 .i64 (x.length : Int) (by omega) (by omega) w
            cases hbl : blankB d
            · have HBL := Lib.hid hbl; clear hbl
              go_wp2_with (go_at_call 26; refine (blank_any d _).mono ?_; rintro e w' ⟨rfl, rfl⟩; rw [HBL.out])
              go_ret
              refine ⟨⟨_, rfl, ?_⟩, rfl⟩
              rw [← hmq.out, dropEnd_snoc, HBL.out]; exact hm.out
            · have HBL := Lib.hid hbl; clear hbl
              go_wp2_with (go_at_call 26; refine (blank_any d _).mono ?_; rintro e w' ⟨rfl, rfl⟩; rw [HBL.out])
              go_round
              case rel =>
                refine ⟨x, hr.out, by omega, ?_⟩
                have := hmq.out
                rw [dropEnd_snoc, HBL.out] at this; exact this
              case measure => simp [lenV]
      · have HBL := Lib.hid hbl; clear hbl
        go_wp2_with (go_at_call 26; refine (blank_any d _).mono ?_; rintro e w' ⟨rfl, rfl⟩; rw [HBL.out])
        go_round
        case rel =>
          refine ⟨r, hr.out, by omega, ?_⟩
          have := hmq.out
          rw [dropBl_cons, HBL.out] at this; exact this
        case measure => simp [lenV]

theorem endsB_nil (l p : Bs) (h : l.length = p.length) : endsB l p = true := by
  unfold endsB; rw [List.drop_eq_nil_of_le (by omega)]
theorem drop_cons_of_lt (l : Bs) (k : Nat) (h : k < l.length) : l.drop k = l.getD k 0 :: l.drop (k + 1) := by
  rw [List.drop_eq_getElem_cons h]; simp [List.getD, List.getElem?_eq_getElem h]
theorem endsB_cons (l p : Bs) (h : p.length < l.length) : endsB l p =
    (l.getD p.length 0 == 32 || l.getD p.length 0 == 9 || l.getD p.length 0 == 13 || l.getD p.length 0 == 10 ||
      (l.getD p.length 0 == 45 && (decide (p.length + 1 < l.length) && l.getD (p.length + 1) 0 == 45))) := by
  unfold endsB; rw [drop_cons_of_lt l _ h]
  simp only
  by_cases h2 : p.length + 1 < l.length
  · rw [drop_cons_of_lt l _ h2]; simp [h2]
  · rw [List.drop_eq_nil_of_le (by omega)]; simp [h2]

set_option maxRecDepth 100000 in
set_option maxHeartbeats 400000 in
theorem ends_any {S : List Nat} {w : World} {v : Value} {l : Bs} (p : Bs) (h : BS S w v l) (hl : l.length ≤ 100000) (hp : p.length ≤ l.length) :
    Calls Tryz.prog 33 #[v, .string (bstr p)] w fun e w' => e = .returned (.bool (endsB l p)) ∧ w = w' := by
  obtain ⟨a, c, rfl, hlc, _⟩ := id h
  by_cases he : l.length = p.length
  · rw [endsB_nil l p he]
    have he' : ((l.length : Int) == p.length) = true := by rw [beq_iff_eq]; omega
    clear he
    go_enter Tryz.func33, Tryz.ntmps33
    go_wp2
    go_ret
    exact ⟨rfl, rfl⟩
  · have hlt : p.length < l.length := by omega
    rw [endsB_cons l p hlt]
    have he' : ((l.length : Int) == p.length) = false := by rw [beq_eq_false_iff_ne]; omega
    obtain ⟨b, o, rfl, _, hseg⟩ := h.at_ (by omega)
    have hcell := hseg.cell p.length hlt
    have hcell2 : p.length + 1 < l.length → w.cell? ⟨b, o + (p.length + 1), none⟩ = some (bv (l.getD (p.length + 1) 0)) := fun h => hseg.cell (p.length + 1) h
    generalize l.getD p.length 0 = d at *
    generalize l.getD (p.length + 1) 0 = d2 at *
    rw [← u8i d 32 32 rfl, ← u8i d 9 9 rfl, ← u8i d 13 13 rfl, ← u8i d 10 10 rfl, ← u8i d 45 45 rfl, ← u8i d2 45 45 rfl]
    clear h hseg he
    by_cases h2 : p.length + 1 < l.length
    · have hcell3 := hcell2 h2
      have h2' : decide (p.length + 1 < l.length) = true := by simpa using h2
      rw [h2']
      clear hcell2 h2'
      go_enter Tryz.func33, Tryz.ntmps33
      go_wp2
      all_goals
        go_ret
        exact ⟨ret_bool (by first | (simp_all; done) | (simp_all; omega)), rfl⟩
    · have h2' : decide (p.length + 1 < l.length) = false := by simpa using h2
      rw [h2']
      clear hcell2 h2'
      go_enter Tryz.func33, Tryz.ntmps33
      go_wp2
      all_goals
        go_ret
        exact ⟨ret_bool (by first | (simp_all; done) | (simp_all; omega)), rfl⟩
end Go.Proofs.YtekndndhgkdggaaGreatDoor

namespace Go.Proofs.YtekndndhgkdggaaGreatDoor
open Go.RowKit

def toksB : Bs := [33, 35, 36, 37, 38, 39, 42, 43, 45, 46, 94, 95, 96, 124, 126]

theorem token_eq (c : UInt8) : tokenB c = ((decide (48 ≤ (c.toNat : Int)) && decide ((c.toNat : Int) ≤ 57)) || (decide (97 ≤ (c.toNat : Int)) && decide ((c.toNat : Int) ≤ 122)) || (decide (65 ≤ (c.toNat : Int)) && decide ((c.toNat : Int) ≤ 90)) || toksB.contains c) := by
  rw [← u8ge c 48 48 rfl, ← u8ge c 97 97 rfl, ← u8ge c 65 65 rfl, ← u8le c 57 57 rfl, ← u8le c 122 122 rfl, ← u8le c 90 90 rfl]; rfl

theorem noB_contains {c : UInt8} {l : Bs} (h : NoB c l l.length) : l.contains c = false := by
  rw [Bool.eq_false_iff]
  intro e
  rw [List.contains_iff_mem] at e
  obtain ⟨i, hi, he⟩ := List.getElem_of_mem e
  exact h i hi (by simp [List.getD, List.getElem?_eq_getElem hi, he])
theorem contains_at {c : UInt8} {l : Bs} {k : Nat} (h : k < l.length) (he : l.getD k 0 = c) : l.contains c = true := by
  rw [List.contains_iff_mem]
  rw [← he]; simp [List.getD, List.getElem?_eq_getElem h]

theorem getD_map_bv (l : Bs) (k : Nat) (h : k < l.length) : (l.map bv).toArray[k]? = some (bv (l.getD k 0)) := by
  simp [List.getD, List.getElem?_eq_getElem h]

theorem marked_cell (w : World) (l : Bs) (k : Nat) (m : Nat × Nat) (h : k < l.length) : (w.alloc (.cells (l.map bv).toArray 5 m)).cell? ⟨w.heap.size, 0 + k, none⟩ = some (bv (l.getD k 0)) := by
  rw [← getD_map_bv l k h, Nat.zero_add]
  simp only [World.cell?, World.alloc, Array.getElem?_push_size]
  rfl

set_option maxRecDepth 100000 in
set_option maxHeartbeats 400000 in
/-- the loop over the signs -/
theorem token_any (c : UInt8) (w : World) : Calls Tryz.prog 41 #[bv c] w fun e w' => e = .returned (.bool (tokenB c)) ∧ Chg [] w w' := by
  have kc := fun (w : World) (C : Array Value) (n c : Nat) => Lib.run_convert_bytes_const (P := Tryz.prog) w 22 5 C n c (by kernel_rfl) (by kernel_rfl)
  rw [token_eq]
  by_cases hA : 48 ≤ (c.toNat : Int) ∧ (c.toNat : Int) ≤ 57
  · obtain ⟨h1, h2⟩ := hA
    go_enter Tryz.func41, Tryz.ntmps41
    go_wp2
    go_ret
    exact ⟨ret_bool (by simp_all), Chg.refl _ _⟩
  by_cases hB : 97 ≤ (c.toNat : Int) ∧ (c.toNat : Int) ≤ 122
  · obtain ⟨h1, h2⟩ := hB
    clear hA
    go_enter Tryz.func41, Tryz.ntmps41
    go_wp2
    go_ret
    exact ⟨ret_bool (by simp_all), Chg.refl _ _⟩
  by_cases hC : 65 ≤ (c.toNat : Int) ∧ (c.toNat : Int) ≤ 90
  · obtain ⟨h1, h2⟩ := hC
    clear hA hB
    go_enter Tryz.func41, Tryz.ntmps41
    go_wp2
    go_ret
    exact ⟨ret_bool (by simp_all), Chg.refl _ _⟩
  have hno : ((decide (48 ≤ (c.toNat : Int)) && decide ((c.toNat : Int) ≤ 57)) || (decide (97 ≤ (c.toNat : Int)) && decide ((c.toNat : Int) ≤ 122)) || (decide (65 ≤ (c.toNat : Int)) && decide ((c.toNat : Int) ≤ 90)) || toksB.contains c) = toksB.contains c := by
    have a : (decide (48 ≤ (c.toNat : Int)) && decide ((c.toNat : Int) ≤ 57)) = false := by simpa using hA
    have b : (decide (97 ≤ (c.toNat : Int)) && decide ((c.toNat : Int) ≤ 122)) = false := by simpa using hB
    have d : (decide (65 ≤ (c.toNat : Int)) && decide ((c.toNat : Int) ≤ 90)) = false := by simpa using hC
    rw [a, b, d]; rfl
  rw [hno]; clear hno
  have hcase : (c.toNat : Int) < 48 ∨ (57 < (c.toNat : Int) ∧ (c.toNat : Int) < 65) ∨ (90 < (c.toNat : Int) ∧ (c.toNat : Int) < 97) ∨ 122 < (c.toNat : Int) := by omega
  clear hA hB hC
  have hch : Chg [] w (w.alloc (.cells (toksB.map bv).toArray 5 (15, 16))) := (Chg.refl _ _).alloc _
  have hcells : ∀ k, k < 15 → (w.alloc (.cells (toksB.map bv).toArray 5 (15, 16))).cell? ⟨w.heap.size, 0 + k, none⟩ = some (bv (toksB.getD k 0)) := fun k hk => marked_cell w toksB k _ hk
  generalize hw1 : w.alloc (.cells (toksB.map bv).toArray 5 (15, 16)) = w1 at hch hcells
  have hw1' : w.alloc (.cells #[.int .u8 33, .int .u8 35, .int .u8 36, .int .u8 37, .int .u8 38, .int .u8 39, .int .u8 42, .int .u8 43, .int .u8 45, .int .u8 46, .int .u8 94, .int .u8 95, .int .u8 96, .int .u8 124, .int .u8 126] 5 (15, 16)) = w1 := hw1
  clear hw1
  have HC := Lib.hid (And.intro hcells hch); clear hcells hch
  have HW := Lib.hid hw1'; clear hw1'
  generalize hcon : toksB.contains c = q
  have HQ := Lib.hid hcon; clear hcon
  rcases hcase with hc | ⟨hc, hc'⟩ | ⟨hc, hc'⟩ | hc
  all_goals
    go_enter Tryz.func41, Tryz.ntmps41
    go_wp2
    rw [HW.out]
    clear HW kc
    go_loop [30] (fun i => ∃ k : Nat, k ≤ 15 ∧ i = .int .i64 k ∧ NoB c toksB k) (fun i => 15 - (intOf i).toNat)
    case atStart => exact ⟨0, Nat.zero_le _, rfl, NoB.zero _ _⟩
    case round =>
      obtain ⟨k, hk, rfl, hno⟩ := hrel
      by_cases hlt : k < 15
      · have hcell := HC.out.1 k hlt
        rw [Nat.zero_add] at hcell
        generalize hd : toksB.getD k 0 = d at hcell
        have HD := Lib.hid hd; clear hd
        by_cases he : d = c
        · have ht : ((d.toNat : Int) == (c.toNat : Int)) = true := by rw [u8i d c _ rfl]; simpa using he
          have HE := Lib.hid he; clear he
          go_wp2
          go_ret
          refine ⟨ret_bool ?_, HC.out.2⟩
          rw [← HQ.out, contains_at (l := toksB) (k := k) (show k < toksB.length from hlt) (HD.out.trans HE.out)]
        · have ht : ((d.toNat : Int) == (c.toNat : Int)) = false := by rw [u8i d c _ rfl]; simpa using he
          have HE := Lib.hid he; clear he
          go_wp2
          go_round
          case rel => exact ⟨k + 1, by omega, by go_num, hno.succ (by rw [HD.out]; exact HE.out)⟩
          case measure => simp [intOf]; omega
      · have hke : k = 15 := by omega
        have HKE := Lib.hid hke; clear hke
        go_wp2
        go_ret
        refine ⟨ret_bool ?_, HC.out.2⟩
        rw [← HQ.out, noB_contains (l := toksB) (by rw [show toksB.length = k from HKE.out.symm]; exact hno)]
end Go.Proofs.YtekndndhgkdggaaGreatDoor
