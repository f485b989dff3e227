import Derived.Test.Qxb6603247aP1
namespace Go.Proofs.Qxb6603247a
open Go.RowKit

/-- The number that the m bytes of g from a on spell. -/
def numf (g : Nat → Int) (a : Nat) : Nat → Int
  | 0 => 0
  | m + 1 => numf g a m * 10 + (g (a + m) - 48)

theorem num_numf (s : ByteArray) (a : Nat) : ∀ m, num s a m = numf (byt s) a m
  | 0 => rfl
  | m + 1 => by rw [num_succ, num_numf s a m]; rfl

theorem numf_congr {g h : Nat → Int} {a b : Nat} : ∀ m, (∀ r, r < m → g (a + r) = h (b + r)) → numf g a m = numf h b m
  | 0, _ => rfl
  | m + 1, e => by
    show numf g a m * 10 + (g (a + m) - 48) = numf h b m * 10 + (h (b + m) - 48)
    rw [numf_congr m (fun r hr => e r (by omega)), e m (by omega)]

theorem numf_cons (g : Nat → Int) (a : Nat) : ∀ m, numf g a (m + 1) = (g a - 48) * 10 ^ m + numf g (a + 1) m
  | 0 => by simp [numf]
  | m + 1 => by
    have ih := numf_cons g a m
    have e1 : numf g a (m + 1 + 1) = numf g a (m + 1) * 10 + (g (a + (m + 1)) - 48) := rfl
    have e2 : numf g (a + 1) (m + 1) = numf g (a + 1) m * 10 + (g (a + 1 + m) - 48) := rfl
    rw [e1, e2, ih, Int.pow_succ, show a + (m + 1) = a + 1 + m from by omega, Int.add_mul, Int.mul_assoc]
    omega

def mag (t : Bool) (v : Int) : Int := if t then -v else v

/-- What holds ahead of a round: k + 1 places are free. -/
def Rd (U : Int) (k : Nat) (X : Int) (g : Nat → Int) : Prop :=
  X = U / 10 ^ (19 - k) ∧ (∀ r, k < r → r < 20 → dig (g r) = true) ∧ numf g (k + 1) (19 - k) = U % 10 ^ (19 - k)

def upd (g : Nat → Int) (k : Nat) (c : Int) : Nat → Int := fun r => if r = k then c else g r

theorem upd_at (g : Nat → Int) (k : Nat) (c : Int) : upd g k c k = c := if_pos rfl
theorem upd_other (g : Nat → Int) {k r : Nat} (c : Int) (h : r ≠ k) : upd g k c r = g r := if_neg h

theorem rd_start (U : Int) (g : Nat → Int) : Rd U 19 U g := by
  refine ⟨by simp, fun r h1 h2 => by omega, by simp [numf]⟩

theorem pow_pos10 (m : Nat) : (0 : Int) < 10 ^ m := Int.pow_pos (by decide)

theorem emod_pow (U : Int) (m : Nat) : U % 10 ^ (m + 1) = (U / 10 ^ m % 10) * 10 ^ m + U % 10 ^ m := by
  have h1 := Int.mul_ediv_add_emod U (10 ^ m)
  have h2 := Int.mul_ediv_add_emod (U / 10 ^ m) 10
  have hp := pow_pos10 m
  have h3 := Int.emod_nonneg U (show (10 : Int) ^ m ≠ 0 by omega)
  have h4 := Int.emod_lt_of_pos U hp
  have h5 : 0 ≤ U / 10 ^ m % 10 ∧ U / 10 ^ m % 10 ≤ 9 := by omega
  have h6 : (U / 10 ^ m % 10) * 10 ^ m ≤ 9 * 10 ^ m := Int.mul_le_mul_of_nonneg_right h5.2 (by omega)
  have h7 : 0 ≤ (U / 10 ^ m % 10) * 10 ^ m := Int.mul_nonneg h5.1 (by omega)
  have e : U = ((U / 10 ^ m % 10) * 10 ^ m + U % 10 ^ m) + 10 ^ (m + 1) * (U / 10 ^ m / 10) := by
    rw [Int.pow_succ]
    have h8 : 10 ^ m * (U / 10 ^ m) = 10 ^ m * 10 * (U / 10 ^ m / 10) + (U / 10 ^ m % 10) * 10 ^ m := by
      conv => lhs; rw [← h2]
      rw [Int.mul_add, ← Int.mul_assoc, Int.mul_comm (10 ^ m) (U / 10 ^ m % 10)]
    omega
  conv => lhs; rw [e]
  rw [Int.add_mul_emod_self_left]
  apply Int.emod_eq_of_lt
  · omega
  · rw [Int.pow_succ]; omega

theorem ten_le (m : Nat) (h : 19 ≤ m) : (10000000000000000000 : Int) ≤ 10 ^ m := by
  have h1 : (10 : Nat) ^ 19 ≤ 10 ^ m := Nat.pow_le_pow_right (by omega) h
  have h2 : (10 : Nat) ^ 19 = 10000000000000000000 := by decide
  rw [h2] at h1
  have h3 := Int.ofNat_le.2 h1
  rw [Int.natCast_pow] at h3
  exact h3

theorem rd_nonneg {U : Int} {k : Nat} {X : Int} {g : Nat → Int} (h : Rd U k X g) (u0 : 0 ≤ U) : 0 ≤ X := by
  rw [h.1]; exact Int.ediv_nonneg u0 (by have := pow_pos10 (19 - k); omega)

theorem rd_le {U : Int} {k : Nat} {X : Int} {g : Nat → Int} (h : Rd U k X g) (u0 : 0 ≤ U) : X ≤ U := by
  rw [h.1]; exact Int.ediv_le_self _ u0

theorem rd_k {U : Int} {k : Nat} {X : Int} {g : Nat → Int} (h : Rd U k X g) (u0 : 0 ≤ U) (u1 : U ≤ 9223372036854775808) (hx : k = 19 ∨ 0 < X) : 1 ≤ k := by
  apply Classical.byContradiction
  intro hk
  obtain rfl : k = 0 := by omega
  rcases hx with hx | hx
  · omega
  · have h1 := h.1
    have h2 := ten_le 19 (by omega)
    rw [show 19 - 0 = 19 from rfl, Int.ediv_eq_zero_of_lt u0 (by omega)] at h1
    omega

theorem rd_all {U : Int} {k : Nat} {X : Int} {g : Nat → Int} (h : Rd U k X g) : ∀ r, k ≤ r → r < 20 → dig (upd g k (48 + X % 10) r) = true := by
  intro r h1 h2
  by_cases e : r = k
  · subst e; rw [upd_at, dig_iff]; omega
  · rw [upd_other _ _ e]; exact h.2.1 r (by omega) h2

theorem rd_num {U : Int} {k : Nat} {X : Int} {g : Nat → Int} (h : Rd U k X g) (hk : k ≤ 19) : numf (upd g k (48 + X % 10)) k (20 - k) = U % 10 ^ (20 - k) := by
  rw [show 20 - k = (19 - k) + 1 from by omega, numf_cons, upd_at, emod_pow, ← h.1, ← h.2.2]
  rw [show 48 + X % 10 - 48 = X % 10 from by omega]
  congr 1
  exact numf_congr _ fun r _ => upd_other _ _ (by omega)

theorem rd_step {U : Int} {k : Nat} {X : Int} {g : Nat → Int} (h : Rd U (k + 1) X g) (hk : k + 1 ≤ 19) : Rd U k (X / 10) (upd g (k + 1) (48 + X % 10)) := by
  refine ⟨?_, fun r h1 h2 => rd_all h r h1 h2, ?_⟩
  · rw [h.1, Int.ediv_ediv_of_nonneg (by have := pow_pos10 (19 - (k + 1)); omega), ← Int.pow_succ, show (19 - (k + 1)).succ = 19 - k from by omega]
  · have := rd_num h hk
    rwa [show 20 - (k + 1) = 19 - k from by omega] at this

theorem rd_end {U : Int} {k : Nat} {X : Int} {g : Nat → Int} (h : Rd U k X g) (hk : k ≤ 19) (u0 : 0 ≤ U) (hq : X / 10 = 0) : numf (upd g k (48 + X % 10)) k (20 - k) = U := by
  rw [rd_num h hk]
  apply Int.emod_eq_of_lt u0
  have h0 := h.1
  have h1 := Int.mul_ediv_add_emod U (10 ^ (19 - k))
  have hp := pow_pos10 (19 - k)
  have h4 := Int.emod_lt_of_pos U hp
  have h5 : X ≤ 9 := by have := rd_nonneg h u0; omega
  rw [← h0] at h1
  have h6 : 10 ^ (19 - k) * X ≤ 10 ^ (19 - k) * 9 := Int.mul_le_mul_of_nonneg_left h5 (by omega)
  rw [show 20 - k = (19 - k) + 1 from by omega, Int.pow_succ]
  omega

theorem div_u64 {X : Int} (h0 : 0 ≤ X) (h1 : X ≤ 9223372036854775808) : IntKind.u64.wrap (X.tdiv 10) = X / 10 := by
  rw [IntKind.wrap_u64, Int.tdiv_eq_ediv_of_nonneg h0]; omega

end Go.Proofs.Qxb6603247a
