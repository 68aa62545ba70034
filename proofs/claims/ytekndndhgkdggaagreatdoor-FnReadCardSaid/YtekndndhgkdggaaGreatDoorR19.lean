/- strings.EqualFold against a word of plain letters: it says no where the bytes, made small, aren't that word. The map's Get of "Content-Transfer-Encoding": its key is canonical already, and the first of the values comes, or nothing. -/
import Derived.Test.YtekndndhgkdggaaGreatDoorR7
import Derived.Laws.RangeAny
import Derived.Shelf.RegionOpenPlain
import Derived.WalkKit
import Derived.Lib.Walk
import Derived.Lib.Strings
import Derived.Laws.Strings3
import Derived.Deep.LoopGhost
import Derived.ScopeJumps
import Derived.Test.YtekndndhgkdggaaGreatDoorR16
import Derived.WalkSpells
namespace Go.Proofs.YtekndndhgkdggaaGreatDoor
open Go.RowKit

set_option maxRecDepth 100000 in
set_option maxHeartbeats 1000000 in
theorem fold_any {B : Nat} {g : Nat → Addr} {w : World} (hg : Glb B g w) {i : Nat} (h1 : i < 128) (h2 : i ≠ 107) (h3 : i ≠ 115) : Calls Tryz.prog 80 #[.int .i32 (i : Int)] w fun e w' => e = .returned (.int .i32 (foldA i : Int)) ∧ w' = w := by
  have hc := hg.asc i h1 h2 h3
  have hf : foldA i < 256 := by unfold foldA; split <;> (try split) <;> omega
  generalize foldA i = f at *
  have hd1 : decide ((i : Int) < 0) = false := decide_eq_false (by omega)
  have hd2 : decide ((i : Int) > 1114111) = false := decide_eq_false (by omega)
  have hd3 : decide ((i : Int) < 128) = true := decide_eq_true (by omega)
  have i1 : (0 : Int) ≤ (i : Int) := by omega
  have i2 : (i : Int) < 128 := by omega
  have hw1 : IntKind.i32.wrap (f : Int) = (f : Int) := by simp [IntKind.wrap, IntKind.bits, IntKind.signed]; omega
  have hw2 : IntKind.i64.wrap (i : Int) = (i : Int) := IntWalk.i64_in _ (by omega)
  clear hg
  go_enter Tryz.func80, Tryz.ntmps80
  go_wp2

  go_ret
  exact ⟨rfl, rfl⟩
set_option maxRecDepth 100000 in
set_option maxHeartbeats 1000000 in
theorem dec_any {w : World} {d : UInt8} {r : Bs} (hd : d.toNat < 128) : Calls Tryz.prog 79 #[.string (bstr (d :: r))] w fun e w' => e = .returned (.tuple #[.int .i32 (d.toNat : Int), .int .i64 1]) ∧ w' = w := by
  obtain ⟨l, hl⟩ : ∃ l, l = d :: r := ⟨_, rfl⟩
  have hpos2 : 0 < (bstr l).size := by rw [hl]; exact Nat.succ_pos _
  have he : (bstr l)[0]'hpos2 = d := by subst hl; rfl
  have hne : l.isEmpty = false := by rw [hl]; rfl
  have hne2 : ¬ l = [] := by rw [hl]; simp
  have h1 : (d.toNat : Int) < 128 := by omega
  rw [← hl]; clear hl
  go_enter Tryz.func79, Tryz.ntmps79
  go_wp2
  go_ret2
  exact ⟨rfl, rfl⟩

def PlainB (t : Bs) : Prop := ∀ d ∈ t, d.toNat = 45 ∨ (97 ≤ d.toNat ∧ d.toNat ≤ 122 ∧ d.toNat ≠ 107 ∧ d.toNat ≠ 115)

theorem low_of {c d : UInt8} (h : c.toNat = d.toNat ∨ (65 ≤ c.toNat ∧ c.toNat ≤ 90 ∧ d.toNat = c.toNat + 32)) (hd : d.toNat = 45 ∨ (97 ≤ d.toNat ∧ d.toNat ≤ 122)) : lowB c = d := by
  unfold lowB
  have e1 : (65 ≤ c) = (65 ≤ c.toNat) := by simp [UInt8.le_iff_toNat_le]
  have e2 : (c ≤ 90) = (c.toNat ≤ 90) := by simp [UInt8.le_iff_toNat_le]
  simp only [e1, e2]
  by_cases hc : 65 ≤ c.toNat ∧ c.toNat ≤ 90
  · simp only [hc.1, hc.2, decide_true, Bool.and_self, if_true]
    apply UInt8.toNat.inj
    rw [UInt8.toNat_add]
    show (c.toNat + 32) % 256 = d.toNat
    omega
  · have : (decide (65 ≤ c.toNat) && decide (c.toNat ≤ 90)) = false := by
      rw [Bool.and_eq_false_iff]
      by_cases h1 : 65 ≤ c.toNat
      · right; simp; omega
      · left; simp; omega
    rw [this]
    simp only [Bool.false_eq_true, if_false]
    apply UInt8.toNat.inj
    omega

theorem map_take_succ {s t : Bs} {j : Nat} (hs : j < s.length) (ht : j < t.length) (h : (s.take j).map lowB = t.take j) (hl : lowB (s.getD j 0) = t.getD j 0) : (s.take (j + 1)).map lowB = t.take (j + 1) := by
  rw [take_at hs, take_at ht, List.map_append, h]
  simp only [List.map_cons, List.map_nil, hl]

theorem bstr_cut (s : Bs) (i j : Nat) (hj : j = s.length) : (bstr s).extract i j = bstr (s.drop i) := by
  subst hj
  apply ByteArray.ext
  show ((bstr s).extract i s.length).data = (s.drop i).toArray
  apply Array.ext'
  simp only [ByteArray.data_extract, bstr]
  simp
  exact List.take_of_length_le (by rw [List.length_drop]; omega)
theorem bstr_high {s : Bs} {i : Nat} (hi : i < s.length) (hx : 128 ≤ (s.getD i 0).toNat) : 128 ≤ (Utf8.decode (bstr (s.drop i)) 0).1 ∧ 0 < (bstr (s.drop i)).size := by
  have hsz : 0 < (bstr (s.drop i)).size := by
    show 0 < (s.drop i).length
    rw [List.length_drop]; omega
  refine ⟨(decode_high _ 0 hsz ?_).1, hsz⟩
  have e : (bstr (s.drop i))[0]'hsz = s.getD i 0 := by
    have e2 : ∀ (l : Bs) (h : 0 < l.length) (hs : 0 < (bstr l).size), (bstr l)[0]'hs = l[0]'h := fun l h hs => rfl
    rw [e2 _ (by rw [List.length_drop]; omega)]
    rw [List.getElem_drop]
    simp [List.getD, List.getElem?_eq_getElem hi]
  rw [e]; exact hx

def NoPost (w : World) (e : Ending) (w' : World) : Prop := e = .returned (.bool false) ∧ Chg [] w w'

theorem or_high {c d : Nat} (hc : c < 256) (hd : d < 128) : 128 ≤ (c ||| d) ↔ 128 ≤ c := by
  constructor
  · intro h
    rcases Nat.lt_or_ge c 128 with h1 | h1
    · have := Nat.or_lt_two_pow (n := 7) h1 hd; omega
    · exact h1
  · intro h; exact Nat.le_trans h (Nat.left_le_or)

def foldF (s t : Bs) (i : Nat) (u : Nat → Value) : Act := { tmps := #[.string (bstr s), .string (bstr t), undef, undef, u 4, .int .i64 i, u 6, u 7, u 8, undef, undef, undef, undef, undef, u 14, u 15, u 16, u 17, u 18, u 19, u 20, u 21, u 22, u 23, u 24, u 25, u 26, u 27, u 28, u 29, u 30, u 31, u 32, u 33, u 34, u 35, u 36, u 37, u 38, u 39, u 40, u 41, u 42, u 43, u 44, u 45, u 46, u 47, u 48, u 49, u 50, u 51, u 52, u 53, u 54, undef, undef, undef, undef, undef, undef, undef, undef, undef, undef, undef, undef, undef, undef, undef, undef, undef, undef, undef, undef, undef, undef, undef, undef, undef, undef, undef, undef, undef, undef, undef, undef, undef, undef, undef, undef, undef, undef, undef, undef, undef, undef, undef, undef, undef, undef, undef, undef, undef, undef, undef, undef, undef, undef, undef, undef, undef, undef, undef, undef, undef, undef, undef, undef, undef, undef, undef, undef], defers := [] }

def FoldJ (w : World) (s t : Bs) (M : Nat) (a : Act) (w' : World) : Prop := w' = w ∧ ∃ (i : Nat) (u : Nat → Value), a = foldF s t i u ∧ i < M ∧ 128 ≤ (s.getD i 0).toNat

theorem foldJ_of {w : World} {s t : Bs} {M : Nat} {a : Act} (i : Nat) (h : a = foldF s t i (fun k => a.tmps.getD k undef)) (hi : i < M) (hx : 128 ≤ (s.getD i 0).toNat) : FoldJ w s t M a w := ⟨rfl, i, _, h, hi, hx⟩

set_option maxRecDepth 100000 in
set_option maxHeartbeats 8000000 in
theorem eqFold_any {B : Nat} {g : Nat → Addr} {w : World} {s t : Bs} (hg : Glb B g w) (htl : t.length ≤ 1000) (ht : PlainB t) (hne : s.map lowB ≠ t) : Calls Tryz.prog 61 #[.string (bstr s), .string (bstr t)] w (NoPost w) := by
  obtain ⟨M, hM⟩ : ∃ M : Nat, min (s.length : Int) (t.length : Int) = (M : Int) := ⟨min s.length t.length, by omega⟩
  have hMs : M ≤ s.length := by omega
  have hMt : M ≤ t.length := by omega
  have hMe : M = s.length ∨ M = t.length := by omega
  have HG := Lib.hid (And.intro hg (And.intro ht hne)); clear hg ht hne
  go_enter Tryz.func61, Tryz.ntmps61
  go_wp2
  refine wp_scope_jumps 0 (FoldJ w s t M) (fun _ _ => 0) rfl ?_ ?_
  rotate_left
  · rintro a' wq ⟨rfl, i, u, rfl, hi, hx⟩
    unfold foldF
    clear hM hMe
    obtain ⟨y, hy⟩ : ∃ y : UInt8, t.getD i 0 = y := ⟨_, rfl⟩
    have hyp := HG.out.2.1 y (by rw [← hy]; simp [List.getD, List.getElem?_eq_getElem (show i < t.length by omega)])
    have hit : i < t.length := by omega
    have hes : (bstr s).extract i s.length = bstr (s.drop i) := bstr_cut s i _ rfl
    have het : (bstr t).extract i t.length = bstr (y :: t.drop (i + 1)) := by
      rw [bstr_cut t i _ rfl, List.drop_eq_getElem_cons hit]
      rw [← hy]
      simp [List.getD, List.getElem?_eq_getElem hit]
    obtain ⟨hr128, hsz⟩ := bstr_high (show i < s.length by omega) hx
    obtain ⟨ru, hru⟩ : ∃ ru, (Utf8.decode (bstr (s.drop i)) 0).1 = ru := ⟨_, rfl⟩
    rw [hru] at hr128
    clear hit
    have hrn := fun ty => run_next_any (P := Tryz.prog) wq (bstr (s.drop i)) 0 ty hsz
    simp only [hru] at hrn
    go_wp2
    go_loopg [1] 1 (fun gk s1 wx => gk = 1 ∧ s1 = .string (bstr (y :: t.drop (i + 1))) ∧ wx = wq.iter (bstr (s.drop i)) 0)
    case atStart => exact ⟨rfl, rfl, rfl⟩
    case round =>
      obtain ⟨rfl, rfl, rfl⟩ := hrel
      go_wp2_with fail
      refine (dec_any (by omega)).mono ?_
      rintro e w2 ⟨rfl, rfl⟩
      have hc0 : Chg [] wq (wq.iter (bstr (s.drop i)) (Utf8.decode (bstr (s.drop i)) 0).2) := (Chg.refl [] wq).alloc (.stringIter (bstr (s.drop i)) _)
      have hg2 := HG.out.1.chg hc0 (by simp)
      generalize wq.iter (bstr (s.drop i)) (Utf8.decode (bstr (s.drop i)) 0).2 = w3 at *
      have hye : ¬ ((y.toNat : Int) = (ru : Int)) := by omega
      have hyl : (y.toNat : Int) < (ru : Int) := by omega
      have hrl : ¬ ((ru : Int) < 128) := by omega
      have hf80 := Lib.hid (fold_any hg2 (i := y.toNat) (by omega) (by omega) (by omega))
      have H0 := Lib.hid (And.intro hc0 hg2); clear hc0 hg2 hrn
      go_wp2_with fail
      refine hf80.out.mono ?_
      rintro e w4 ⟨rfl, rfl⟩
      have hfo : foldA y.toNat = y.toNat ∨ (97 ≤ y.toNat ∧ foldA y.toNat = y.toNat - 32) := by
        by_cases h : 97 ≤ y.toNat
        · exact .inr ⟨h, by unfold foldA; rw [if_pos ⟨h, by omega⟩]⟩
        · exact .inl (by unfold foldA; rw [if_neg (by omega), if_neg (by omega)])
      generalize foldA y.toNat = k0 at *
      clear hf80
      go_wp2
      go_loopg [13] 1 (fun gj s13 wx => wx = w4 ∧ ∃ k : Nat, s13 = .int .i32 (k : Int) ∧ (k = y.toNat ∨ (gj = 1 ∧ 97 ≤ y.toNat ∧ k = y.toNat - 32)))
      case atStart => exact ⟨rfl, k0, rfl, by omega⟩
      case round =>
        obtain ⟨rfl, k, rfl, hk⟩ := hrel
        rcases hk with rfl | ⟨rfl, hy97, hky⟩
        · have hkk : ¬ ((y.toNat : Int) = (ru : Int)) := by omega
          go_wp2
          go_ret
          exact ⟨rfl, H0.out.1⟩
        · have hkk : ((k : Int) != (y.toNat : Int)) = true := bne_iff_ne.2 (by omega)
          have hkl : (k : Int) < (ru : Int) := by omega
          have hkl2 : k < ru := by omega
          have hf80 := Lib.hid (fold_any H0.out.2 (i := k) (by omega) (by omega) (by omega))
          have hfk : foldA k = y.toNat := by unfold foldA; rw [if_neg (by omega), if_pos (by omega)]; omega
          rw [hfk] at hf80
          clear hky hfk
          go_wp2_with fail
          refine hf80.out.mono ?_
          rintro e w5 ⟨rfl, rfl⟩
          go_wp2
          go_roundg 0
          case measure => omega
          case rel => exact ⟨rfl, y.toNat, rfl, .inl rfl⟩
  go_wp2
  go_loopg [5] M (fun gk s5 wx => w = wx ∧ ∃ i : Nat, i + gk = M ∧ s5 = .int .i64 i ∧ Hid ((s.take i).map lowB = t.take i))
  case atStart => exact ⟨rfl, 0, by omega, rfl, rfl⟩
  case round =>
    obtain ⟨rfl, i, hig, rfl, hinv⟩ := hrel
    clear hM
    cases gk with
    | zero =>
      have hiM : ¬ ((i : Int) < (M : Int)) := by omega
      obtain rfl : i = M := by omega
      have hln : s.length ≠ t.length := fun e => by
        have h1 := hinv.out
        rw [List.take_of_length_le (by omega), List.take_of_length_le (by omega)] at h1
        exact HG.out.2.2 h1
      have hb : ((s.length : Int) == (t.length : Int)) = false := beq_eq_false_iff_ne.2 (by omega)
      go_wp2
      go_ret
      exact ⟨rfl, Chg.refl _ _⟩
    | succ gg =>
      have hiM : (i : Int) < (M : Int) := by omega
      have his : i < s.length := by omega
      have hit : i < t.length := by omega
      obtain ⟨x, hx⟩ : ∃ x : UInt8, s.getD i 0 = x := ⟨_, rfl⟩
      obtain ⟨y, hy⟩ : ∃ y : UInt8, t.getD i 0 = y := ⟨_, rfl⟩
      have hix := fun wy => index9' s i x his hx wy
      have hiy := fun wy => index9' t i y hit hy wy
      have hyp := HG.out.2.1 y (by rw [← hy]; simp [List.getD, List.getElem?_eq_getElem hit])
      have hx256 := x.toNat_lt
      have hy128 : y.toNat < 128 := by omega
      have hor : bits .or .u8 (x.toNat : Int) (y.toNat : Int) = ((x.toNat ||| y.toNat : Nat) : Int) := u8_or_nat _ _ (by omega) (by omega)
      have Hx := Lib.hid (And.intro hx (And.intro hy hinv)); clear hx hy hinv
      by_cases hx1 : x.toNat < 128
      · have hor128 : ¬ ((128 : Int) ≤ ((x.toNat ||| y.toNat : Nat) : Int)) := by have := or_high hx256 hy128; omega
        go_wp2
        all_goals (try simp only [beq_iff_eq, beq_eq_false_iff_ne, ne_eq] at *)
        all_goals first
          | (go_roundg gg
             case measure => omega
             case rel => exact ⟨rfl, i + 1, by omega, by first | rfl | simp, map_take_succ his hit Hx.out.2.2.out (by rw [Hx.out.1, Hx.out.2.1]; exact low_of (by omega) (by omega))⟩)
          | (go_ret
             exact ⟨rfl, Chg.refl _ _⟩)
      · have hor128 : (128 : Int) ≤ ((x.toNat ||| y.toNat : Nat) : Int) := by have := or_high hx256 hy128; omega
        go_wp2
        go_step3
        show 0 = 0 ∧ FoldJ w s t M _ w
        exact ⟨rfl, foldJ_of i rfl (by omega) (by rw [Hx.out.1]; omega)⟩
end Go.Proofs.YtekndndhgkdggaaGreatDoor

namespace Go.Proofs.YtekndndhgkdggaaGreatDoor
open Go.RowKit

def upB (i : Nat) : Bool := i == 0 || (cteB.getD (i - 1) 0).toNat == 45
def CanP (i : Nat) : Prop := tokenB (cteB.getD i 0) = true ∧ ((upB i = true ∧ 65 ≤ (cteB.getD i 0).toNat ∧ (cteB.getD i 0).toNat ≤ 90 ∧ upB (i + 1) = false) ∨ (upB i = false ∧ (cteB.getD i 0).toNat = 45 ∧ upB (i + 1) = true) ∨ (upB i = false ∧ 97 ≤ (cteB.getD i 0).toNat ∧ (cteB.getD i 0).toNat ≤ 122 ∧ upB (i + 1) = false))
instance (i : Nat) : Decidable (CanP i) := by unfold CanP; infer_instance
theorem canP_all : ∀ i, i < 25 → CanP i := by decide +kernel

set_option maxRecDepth 100000 in
set_option maxHeartbeats 4000000 in
theorem canon_any (w : World) : Calls Tryz.prog 81 #[.string (bstr cteB)] w fun e w' => e = .returned (.string (bstr cteB)) ∧ w' = w := by
  have hlen : cteB.length = 25 := rfl
  have hall := canP_all
  have hix := fun i d (hi : i < 25) (hd : cteB.getD i 0 = d) wy => index9' cteB i d hi hd wy
  have hu0 : upB 0 = true := rfl
  obtain ⟨l, hl⟩ : ∃ l, cteB = l := ⟨_, rfl⟩
  unfold CanP at hall
  rw [hl] at hlen hall hix ⊢
  clear hl
  have HA := Lib.hid (And.intro hall (And.intro hix hu0)); clear hall hix hu0
  go_enter Tryz.func81, Tryz.ntmps81
  go_wp2
  go_loopg [0, 3, 4] 25 (fun gk s0 s3 s4 wx => wx = w ∧ ∃ i : Nat, i + gk = 25 ∧ s4 = .int .i64 i ∧ s3 = .bool (upB i) ∧ s0 = .string (bstr l))
  case atStart => exact ⟨rfl, 0, rfl, rfl, by rw [HA.out.2.2], rfl⟩
  case round =>
    obtain ⟨rfl, i, hig, rfl, rfl, rfl⟩ := hrel
    cases gk with
    | zero =>
      obtain rfl : i = 25 := by omega
      go_wp2
      go_ret
      exact ⟨rfl, rfl⟩
    | succ gg =>
      have hi : i < 25 := by omega
      obtain ⟨htok, hor⟩ := HA.out.1 i hi
      obtain ⟨c, hc⟩ : ∃ c, l.getD i 0 = c := ⟨_, rfl⟩
      have hix := HA.out.2.1 i c hi hc
      rw [hc] at htok hor
      have hv := validField_any c wr
      rw [htok] at hv
      have hI : (i : Int) < 25 := by omega
      clear hc htok
      rcases hor with ⟨h1, h2, h3, h4⟩ | ⟨h1, h2, h4⟩ | ⟨h1, h2, h3, h4⟩
      all_goals
        rw [h1]
        have H4 := Lib.hid h4; clear h4 h1
        go_wp2_with (go_at_call 93; refine hv.mono ?_; rintro e w1 ⟨rfl, rfl⟩)
        go_roundg gg
        case measure => omega
        case rel => exact ⟨rfl, i + 1, by omega, by first | rfl | simp, by rw [H4.out] <;> first | rfl | (simp; omega), rfl⟩
/-- what lies under a key -/
theorem valOf_str {base SB ns : Nat} {w : World} {gs : List GF} (h : ∀ g ∈ gs, g.2.1 ≠ [] ∧ Val SB ns base w g.2.2 g.2.1) (k : Bs) : StrS [] w (valOf gs k) (vsOf gs k) := by
  induction gs with
  | nil => exact ⟨none, 0, rfl, by simp [vsOf], .inl ⟨rfl, rfl, rfl⟩⟩
  | cons g r ih =>
    unfold valOf vsOf
    by_cases hk : g.1 = k
    · rw [if_pos hk, if_pos hk]
      exact (h g (by simp)).2.str (fun _ _ => by simp)
    · rw [if_neg hk, if_neg hk]
      exact ih fun g hg => h g (by simp [hg])
theorem printable_of {gs : List GF} : printableB (fsOf gs) = (((vsOf gs cteB).headD []).map lowB == qpB) := by
  induction gs with
  | nil => rfl
  | cons g r ih =>
    show printableB ((g.1, g.2.1) :: fsOf r) = _
    unfold printableB vsOf
    by_cases hk : g.1 = cteB
    · rw [if_pos hk, if_pos hk]
    · rw [if_neg hk, if_neg hk, ih]

set_option maxRecDepth 100000 in
set_option maxHeartbeats 4000000 in
theorem get_any {base SB ns : Nat} {w : World} {M n : Nat} {gs : List GF} (h : MapS base SB ns w M n gs) : Calls Tryz.prog 62 #[.map (some M), .string (bstr cteB)] w fun e w' => e = .returned (.string (bstr ((vsOf gs cteB).headD []))) ∧ w' = w := by
  have hlk := h.map.look cteB (by decide)
  have hst := valOf_str h.vals cteB
  have hca := canon_any w
  have hqm := fun wy => run_eql_map_nil (P := Tryz.prog) wy 90 9 59 (some M) map90
  generalize valOf gs cteB = v at *
  generalize vsOf gs cteB = vs at *
  generalize cteB = l at *
  clear h
  obtain ⟨a, c, rfl, hlc, _⟩ := id hst
  cases vs with
  | nil =>
    have h0 : (([] : List Bs).length : Int) = 0 := rfl
    clear hst
    go_enter Tryz.func62, Tryz.ntmps62
    go_wp2_with fail
    refine hca.mono ?_
    rintro e w1 ⟨rfl, rfl⟩
    go_wp2
    go_ret
    exact ⟨rfl, rfl⟩
  | cons s r =>
    obtain ⟨b, o, rfl, _, hb, hcs⟩ := hst.at_.2.2 (by simp)
    have c0 : w.cell? ⟨b, o, none⟩ = some (sv s) := by have := hcs 0 (by simp); simpa using this
    clear hcs hst
    simp only [List.headD_cons, List.length_cons] at *
    go_enter Tryz.func62, Tryz.ntmps62
    go_wp2_with fail
    refine hca.mono ?_
    rintro e w1 ⟨rfl, rfl⟩
    go_wp2
    go_ret
    exact ⟨rfl, rfl⟩
end Go.Proofs.YtekndndhgkdggaaGreatDoor
