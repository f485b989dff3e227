import Derived.Test.Qxb6603356aProg
import Derived.WalkKit
namespace Go.Proofs.Qxb6603356a
open Go.RowKit

/-! ### Bytes and runs of a string -/

/-- The byte at i, as a number; 0 behind the end. -/
def byt (s : ByteArray) (i : Nat) : Int := ((s.data.toList.getD i 0).toNat : Int)

/-- A decimal digit's byte. -/
def dig (n : Int) : Bool := decide (48 ≤ n) && decide (n ≤ 57)

/-- k is where the run of bytes of kind P that begins at p ends. -/
structure Stop (P : Int → Bool) (s : ByteArray) (p k : Nat) : Prop where
  lo : p ≤ k
  hi : k ≤ s.size
  all : ∀ i, p ≤ i → i < k → P (byt s i) = true
  out : k < s.size → P (byt s k) = false

theorem dig_iff (n : Int) : dig n = true ↔ 48 ≤ n ∧ n ≤ 57 := by unfold dig; simp

theorem byt_at (s : ByteArray) (k : Nat) (h : k < s.size) : byt s k = (s[k].toNat : Int) := by
  unfold byt
  have h' : k < s.data.toList.length := by simpa using h
  rw [List.getD_eq_getElem?_getD, List.getElem?_eq_getElem h']
  rfl

theorem byt_out (s : ByteArray) (k : Nat) (h : s.size ≤ k) : byt s k = 0 := by
  unfold byt
  have h' : s.data.toList.length ≤ k := by simpa using h
  rw [List.getD_eq_getElem?_getD, List.getElem?_eq_none h']
  rfl

theorem all_step {P : Int → Bool} {s : ByteArray} {p k : Nat} (h : ∀ i, p ≤ i → i < k → P (byt s i) = true) (hk : P (byt s k) = true) : ∀ i, p ≤ i → i < k + 1 → P (byt s i) = true := by
  intro i h1 h2
  by_cases e : i = k
  · subst e; exact hk
  · exact h i h1 (by omega)

theorem dig_zero : dig 0 = false := by decide

/-- Behind a run of digits stands none. -/
theorem stop_out {s : ByteArray} {p j : Nat} (h : Stop dig s p j) : dig (byt s j) = false := by
  by_cases hj : j < s.size
  · exact h.out hj
  · rw [byt_out s j (by omega)]; exact dig_zero

theorem dig_in {s : ByteArray} {i : Nat} (h : dig (byt s i) = true) : i < s.size := by
  apply Classical.byContradiction
  intro hi
  rw [byt_out s i (by omega), dig_zero] at h
  exact absurd h (by simp)

/-! ### Placeholders, counted -/

def dgt (c : UInt8) : Bool := dig (c.toNat : Int)

def hitL (n : Int) (x y z : UInt8) : Bool := (x.toNat == 36) && dgt y && !dgt z && ((y.toNat : Int) - 48 == n)

def cntL (n : Int) : List UInt8 → Nat
  | [] => 0
  | x :: r => (if hitL n x (r.getD 0 0) (r.getD 1 0) then 1 else 0) + cntL n r

def headOk (b : List UInt8) : Bool := !dgt (b.getD 0 0)
def lastOk (a : List UInt8) : Bool := match a.getLast? with | some y => !(y.toNat == 36) && !dgt y | none => false

theorem dgt_zero : dgt 0 = false := by decide

theorem lastOk_iff {a : List UInt8} (h : lastOk a = true) : ∃ a' y, a = a' ++ [y] ∧ (y.toNat == 36) = false ∧ dgt y = false := by
  unfold lastOk at h
  split at h
  · next y hy =>
    obtain ⟨a', rfl⟩ := List.getLast?_eq_some_iff.1 hy
    simp at h
    exact ⟨a', y, rfl, by simpa using h.1, h.2⟩
  · exact absurd h (by simp)

theorem lastOk_append (a : List UInt8) {b : List UInt8} (h : lastOk b = true) : lastOk (a ++ b) = true := by
  obtain ⟨b', y, rfl, h1, h2⟩ := lastOk_iff h
  rw [← List.append_assoc]
  unfold lastOk
  rw [List.getLast?_concat]
  simp [h1, h2]

theorem hit_end (n : Int) (x z : UInt8) : hitL n x 0 z = false := by simp [hitL, dgt_zero]

theorem cnt_head (n : Int) {b : List UInt8} (hb : headOk b = true) : ∀ a : List UInt8, cntL n (a ++ b) = cntL n a + cntL n b
  | [] => by simp [cntL]
  | x :: r => by
    have hd : dgt (b.getD 0 0) = false := by simpa [headOk] using hb
    have ih := cnt_head n hb r
    have e : hitL n x ((r ++ b).getD 0 0) ((r ++ b).getD 1 0) = hitL n x (r.getD 0 0) (r.getD 1 0) := by
      match r with
      | [] =>
        show hitL n x (b.getD 0 0) _ = hitL n x 0 0
        unfold hitL; rw [hd, dgt_zero]; simp only [Bool.and_false, Bool.false_and]
      | [y] =>
        show hitL n x y (b.getD 0 0) = hitL n x y 0
        unfold hitL; rw [hd, dgt_zero]
      | y :: z :: r' => rfl
    show (if hitL n x ((r ++ b).getD 0 0) ((r ++ b).getD 1 0) then 1 else 0) + cntL n (r ++ b) = _
    rw [e, ih]
    simp only [cntL]
    omega

theorem cnt_one (n : Int) {y : UInt8} (h : (y.toNat == 36) = false) (b : List UInt8) : cntL n (y :: b) = cntL n b := by
  simp [cntL, hitL, h]

theorem cnt_last (n : Int) {a : List UInt8} (ha : lastOk a = true) (b : List UInt8) : cntL n (a ++ b) = cntL n a + cntL n b := by
  obtain ⟨a', y, rfl, h1, h2⟩ := lastOk_iff ha
  rw [List.append_assoc, List.singleton_append, cnt_head n (by simp [headOk, h2]) a', cnt_head n (by simp [headOk, h2]) a', cnt_one n h1, cnt_one n h1]
  simp [cntL]

/-! ### Placeholders, listed -/

def keepL (ds : List UInt8) : Bool := decide (1 ≤ ds.length) && !(ds.length == 1 && (ds.getD 0 0).toNat != 48)

def seqAt (x : UInt8) (ds : List UInt8) : List UInt8 := if (x.toNat == 36) && keepL ds then x :: (ds ++ [59]) else []

def seqL : List UInt8 → List UInt8
  | [] => []
  | x :: r => seqAt x (r.takeWhile dgt) ++ seqL r

theorem take_head {b : List UInt8} (hb : headOk b = true) : ∀ a : List UInt8, (a ++ b).takeWhile dgt = a.takeWhile dgt
  | [] => by
    match b with
    | [] => rfl
    | y :: b' =>
      have : dgt y = false := by simpa [headOk] using hb
      simp [this]
  | x :: r => by
    have ih := take_head hb r
    show List.takeWhile dgt (x :: (r ++ b)) = _
    rw [List.takeWhile_cons, List.takeWhile_cons, ih]

theorem seq_head {b : List UInt8} (hb : headOk b = true) : ∀ a : List UInt8, seqL (a ++ b) = seqL a ++ seqL b
  | [] => by simp [seqL]
  | x :: r => by
    show seqAt x ((r ++ b).takeWhile dgt) ++ seqL (r ++ b) = _
    rw [take_head hb, seq_head hb r]
    simp [seqL]

theorem seq_one {y : UInt8} (h : (y.toNat == 36) = false) (b : List UInt8) : seqL (y :: b) = seqL b := by
  simp [seqL, seqAt, h]

theorem seq_last {a : List UInt8} (ha : lastOk a = true) (b : List UInt8) : seqL (a ++ b) = seqL a ++ seqL b := by
  obtain ⟨a', y, rfl, h1, h2⟩ := lastOk_iff ha
  rw [List.append_assoc, List.singleton_append, seq_head (by simp [headOk, h2]) a', seq_head (by simp [headOk, h2]) a', seq_one h1, seq_one h1]
  simp [seqL]

theorem seqAt_len (x : UInt8) (ds : List UInt8) : (seqAt x ds).length ≤ ds.length + 2 := by
  unfold seqAt; split <;> simp

theorem take_len (p : UInt8 → Bool) : ∀ l : List UInt8, (l.takeWhile p).length ≤ l.length
  | [] => Nat.le_refl _
  | x :: r => by
    have := take_len p r
    rw [List.takeWhile_cons]
    split <;> simp <;> omega

theorem seq_len : ∀ l : List UInt8, (seqL l).length ≤ l.length * (l.length + 2)
  | [] => by simp [seqL]
  | x :: r => by
    have ih := seq_len r
    have h1 := seqAt_len x (r.takeWhile dgt)
    have h2 := take_len dgt r
    simp only [seqL, List.length_append, List.length_cons]
    have h3 : (r.length + 1) * (r.length + 1 + 2) = r.length * (r.length + 2) + r.length + r.length + 3 := by
      rw [Nat.add_mul, Nat.mul_add r.length (r.length + 1) 2, Nat.mul_add r.length r.length 1, Nat.mul_add r.length r.length 2]; omega
    omega

/-! ### A needle -/

def hasL (nd : List UInt8) : List UInt8 → Bool
  | [] => nd.isEmpty
  | x :: r => nd.isPrefixOf (x :: r) || hasL nd r

theorem pre_cut {y : UInt8} {b : List UInt8} : ∀ (nd a : List UInt8), (nd.contains y = false) → nd.isPrefixOf (a ++ y :: b) = nd.isPrefixOf a
  | [], a, _ => by simp
  | c :: nd, [], h => by
    have : (c == y) = false := by
      simp only [List.contains_cons, Bool.or_eq_false_iff] at h
      have := h.1
      simp at this ⊢
      exact fun e => this e.symm
    simp [List.isPrefixOf, this]
  | c :: nd, x :: a, h => by
    have h' : nd.contains y = false := by
      simp only [List.contains_cons, Bool.or_eq_false_iff] at h; exact h.2
    show (c == x && nd.isPrefixOf (a ++ y :: b)) = (c == x && nd.isPrefixOf a)
    rw [pre_cut nd a h']

theorem has_cut {nd : List UInt8} {y : UInt8} (hn : nd.isEmpty = false) (hy : nd.contains y = false) (b : List UInt8) : ∀ a : List UInt8, hasL nd (a ++ y :: b) = (hasL nd a || hasL nd b)
  | [] => by
    have h1 := pre_cut (b := b) nd [] hy
    simp only [List.nil_append] at h1 ⊢
    simp only [hasL, h1, hn]
    cases nd with
    | nil => exact absurd hn (by simp)
    | cons c nd => simp [List.isPrefixOf]
  | x :: r => by
    have h1 := pre_cut (b := b) nd (x :: r) hy
    show (nd.isPrefixOf ((x :: r) ++ y :: b) || hasL nd (r ++ y :: b)) = _
    rw [h1, has_cut hn hy b r]
    simp only [hasL, Bool.or_assoc]

end Go.Proofs.Qxb6603356a
