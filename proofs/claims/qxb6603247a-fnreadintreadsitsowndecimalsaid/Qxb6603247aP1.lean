import Derived.Test.Qxb6603247aW4
namespace Go.Proofs.Qxb6603247a
open Go.RowKit

/-- A decimal digit's byte. -/
def dig (n : Int) : Bool := decide (48 ≤ n) && decide (n ≤ 57)

/-- The number that the m bytes from a on spell. -/
def num (s : ByteArray) (a : Nat) : Nat → Int
  | 0 => 0
  | m + 1 => num s a m * 10 + (byt s (a + m) - 48)

/-- What a uint64 holds of it. -/
def wu (x : Int) : Int := x % 18446744073709551616

theorem stop_uniq {P : Int → Bool} {s : ByteArray} {p k k' : Nat} (h : Stop P s p k) (h' : Stop P s p k') : k = k' := by
  have key : ∀ {x y : Nat}, Stop P s p x → Stop P s p y → ¬ x < y := by
    intro x y hx hy hlt
    have h1 := hx.out (by have := hy.hi; omega)
    rw [hy.all x hx.lo hlt] at h1
    exact absurd h1 (by simp)
  have := key h h'
  have := key h' h
  omega

theorem stop_again {P : Int → Bool} {s : ByteArray} {p k k' : Nat} (h : Stop P s p k) (h' : Stop P s k k') : k' = k :=
  stop_uniq h' ⟨Nat.le_refl _, h.hi, fun i a b => absurd b (by omega), h.out⟩

theorem byt_lo (s : ByteArray) (i : Nat) : 0 ≤ byt s i := by unfold byt; omega
theorem byt_hi (s : ByteArray) (i : Nat) : byt s i ≤ 255 := by
  unfold byt
  have := (s.data.toList.getD i 0).toNat_lt
  omega

theorem u64_step (n c : Int) : wu (n * 10 + (c - 48)) = wu (wu (wu n * 10) + (c - 48)) := by
  unfold wu; omega

theorem num_zero (s : ByteArray) (a : Nat) : num s a 0 = 0 := rfl
theorem num_succ (s : ByteArray) (a m : Nat) : num s a (m + 1) = num s a m * 10 + (byt s (a + m) - 48) := rfl

theorem dig_iff (n : Int) : dig n = true ↔ 48 ≤ n ∧ n ≤ 57 := by unfold dig; simp

theorem num_bounds (s : ByteArray) (a : Nat) : ∀ m : Nat, (∀ i, i < m → dig (byt s (a + i)) = true) → 0 ≤ num s a m ∧ num s a m < 10 ^ m
  | 0, _ => by simp [num]
  | m + 1, h => by
    have ih := num_bounds s a m (fun i hi => h i (by omega))
    have hd := (dig_iff _).1 (h m (by omega))
    rw [num_succ, Int.pow_succ]
    omega

/-- The greatest magnitude that is let, by the sign. -/
def lim (t : Bool) : Int := if t then 9223372036854775808 else 9223372036854775807

def sgn (t : Bool) (x : Int) : Int := if t then -x else x

/-- The digits from a to j are accepted. -/
def Acc (s : ByteArray) (f t : Bool) (a j : Nat) : Prop := f = false ∧ a < j ∧ j - a ≤ 19 ∧ ¬ (1 < j - a ∧ byt s a = 48) ∧ num s a (j - a) ≤ lim t

theorem num_of_wu {s : ByteArray} {a j : Nat} (h : Stop dig s a j) (h19 : j - a ≤ 19) {N : Int} (hN : N = wu (num s a (j - a))) : N = num s a (j - a) ∧ 0 ≤ N := by
  have hb := num_bounds s a (j - a) (fun i hi => h.all (a + i) (by omega) (by omega))
  have hp : (10 : Int) ^ (j - a) ≤ 10 ^ 19 := by
    have := Nat.pow_le_pow_right (n := 10) (by omega) h19
    exact_mod_cast this
  have h10 : (10 : Int) ^ 19 = 10000000000000000000 := by decide
  rw [h10] at hp
  subst hN
  unfold wu
  omega

theorem not_acc_failed {s : ByteArray} {t : Bool} {a j : Nat} : ¬ Acc s true t a j := fun h => absurd h.1 (by simp)
theorem not_acc_none {s : ByteArray} {f t : Bool} {a j : Nat} (h : j = a) : ¬ Acc s f t a j := fun k => by have := k.2.1; omega
theorem not_acc_long {s : ByteArray} {f t : Bool} {a j : Nat} (h : 19 < (j : Int) - (a : Int)) : ¬ Acc s f t a j := fun k => by have := k.2.2.1; omega
theorem not_acc_zero {s : ByteArray} {f t : Bool} {a j : Nat} (h : 1 < (j : Int) - (a : Int)) (hlt : a < s.size) (hc : ((s[a].toNat : Int) == 48) = true) : ¬ Acc s f t a j :=
  fun k => k.2.2.2.1 ⟨by omega, by rw [byt_at s a hlt]; simpa using hc⟩
theorem not_acc_great {s : ByteArray} {f t : Bool} {a j : Nat} (hs : Stop dig s a j) {N : Int} (hN : N = wu (num s a (j - a))) (h19 : (j : Int) - (a : Int) ≤ 19) (h : lim t < N) : ¬ Acc s f t a j :=
  fun k => by
    have := (num_of_wu hs (by omega) hN).1
    have := k.2.2.2.2
    omega
theorem acc_one {s : ByteArray} {t : Bool} {a j : Nat} (hs : Stop dig s a j) {N : Int} (hN : N = wu (num s a (j - a))) (h0 : ¬ j = a) (h1 : (j : Int) - (a : Int) ≤ 1) (h : N ≤ lim t) : Acc s false t a j := by
  have := hs.lo
  have h2 := (num_of_wu hs (by omega) hN).1
  exact ⟨rfl, by omega, by omega, fun k => by omega, by omega⟩
theorem acc_many {s : ByteArray} {t : Bool} {a j : Nat} (hs : Stop dig s a j) {N : Int} (hN : N = wu (num s a (j - a))) (h1 : 1 < (j : Int) - (a : Int)) (h19 : (j : Int) - (a : Int) ≤ 19) (hlt : a < s.size) (hc : ((s[a].toNat : Int) == 48) = false) (h : N ≤ lim t) : Acc s false t a j := by
  have h2 := (num_of_wu hs (by omega) hN).1
  refine ⟨rfl, by omega, by omega, fun k => ?_, by omega⟩
  have h3 := k.2
  rw [byt_at s a hlt] at h3
  simp [h3] at hc

end Go.Proofs.Qxb6603247a
