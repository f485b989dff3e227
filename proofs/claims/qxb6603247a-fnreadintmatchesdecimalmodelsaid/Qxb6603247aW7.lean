import Derived.Test.Qxb6603247aW6
namespace Go.Proofs.Qxb6603247a
open Go.RowKit

set_option maxHeartbeats 400000 in
theorem isDigit_any (n : Int) (w : World) :
    Calls Try.prog 19 #[.int .u8 n] w fun e w' => e = .returned (.bool (dig n)) ∧ w = w' := by
  unfold dig
  cases h1 : decide (48 ≤ n) <;> cases h2 : decide (n ≤ 57)
  all_goals
    go_enter Try.func19, Try.ntmps19
    go_wp2
    go_ret
    exact ⟨rfl, rfl⟩

set_option maxHeartbeats 400000 in
theorem bytes16 (s : ByteArray) (p : Int) (f : Bool) (w : World) (h : s.size ≤ maxLen) :
    Calls Try.prog 16 #[.string s, .int .i64 p, .bool f] w fun e w' => e = .returned (.bool (decide (s.size ≤ 1048576))) ∧ w = w' := by
  unfold maxLen at h
  by_cases h1 : s.size ≤ 1048576
  all_goals
    go_enter Try.func16, Try.ntmps16
    go_wp2
    go_ret
    exact ⟨by simp [*], rfl⟩

set_option maxHeartbeats 1000000 in
theorem whiteEnd_any (s : ByteArray) (p : Nat) (w : World) (hs : s.size ≤ maxLen) (hp : p ≤ s.size) :
    Calls Try.prog 18 #[.string s, .int .i64 p] w fun e w' => ∃ k : Nat, e = .returned (.int .i64 k) ∧ Stop wht s p k ∧ w = w' := by
  have hs' : s.size ≤ 9223372036854775807 := by unfold maxLen at hs; omega
  go_enter Try.func18, Try.ntmps18
  go_wp2_with fail
  go_loopg [1] (s.size - p) (fun g i wr => ∃ j : Nat, p ≤ j ∧ j ≤ s.size ∧ g = s.size - j ∧ i = .int .i64 j ∧ (∀ i, p ≤ i → i < j → wht (byt s i) = true) ∧ w = wr)
  case atStart => exact ⟨p, Nat.le_refl _, hp, rfl, rfl, fun i h1 h2 => absurd h2 (by omega), rfl⟩
  case round =>
    obtain ⟨j, j1, j2, hg, rfl, hall, rfl⟩ := hrel
    by_cases hlt : j < s.size
    · have HB : Hid (byt s j = (s[j].toNat : Int)) := byt_at s j hlt
      cases hw : wht (s[j].toNat : Int)
      · go_wp2_with (go_at_call 12; refine (isWhite_any _ _).mono ?_; rintro e w' ⟨rfl, rfl⟩)
        go_ret
        exact ⟨j, rfl, ⟨j1, j2, hall, fun _ => by rw [HB.out]; exact hw⟩, rfl⟩
      · go_wp2_with (go_at_call 12; refine (isWhite_any _ _).mono ?_; rintro e w' ⟨rfl, rfl⟩)
        go_roundg (s.size - (j + 1))
        case measure => omega
        case rel => exact ⟨j + 1, by omega, by omega, rfl, by go_num, all_step hall (by rw [HB.out]; exact hw), rfl⟩
    · have hd : decide (j < s.size) = false := by simpa using hlt
      go_wp2_with fail
      go_ret
      exact ⟨j, rfl, ⟨j1, j2, hall, fun h => absurd h hlt⟩, rfl⟩

/-- The texts that withinInt64 compares with. -/
def bnd (t : Bool) : ByteArray := if t then ⟨#[57, 50, 50, 51, 51, 55, 50, 48, 51, 54, 56, 53, 52, 55, 55, 53, 56, 48, 56]⟩ else ⟨#[57, 50, 50, 51, 51, 55, 50, 48, 51, 54, 56, 53, 52, 55, 55, 53, 56, 48, 55]⟩

theorem bnd_size (t : Bool) : (bnd t).size = 19 := by cases t <;> rfl
theorem bnd_num (t : Bool) : num (bnd t) 0 19 = lim t := by cases t <;> decide
theorem bnd_dig (t : Bool) : ∀ i, i < 19 → dig (byt (bnd t) i) = true := by cases t <;> decide

theorem num_lt {x y : ByteArray} (hx : ∀ i, i < 19 → dig (byt x i) = true) (hy : ∀ i, i < 19 → dig (byt y i) = true) {j : Nat} (hj : num x 0 j = num y 0 j) (hl : byt x j < byt y j) :
    ∀ r, j + 1 + r ≤ 19 → num x 0 (j + 1 + r) < num y 0 (j + 1 + r)
  | 0, h => by
    rw [show j + 1 + 0 = j + 1 from rfl, num_succ, num_succ, hj, Nat.zero_add]; omega
  | r + 1, h => by
    have ih := num_lt hx hy hj hl r (by omega)
    have h1 := (dig_iff _).1 (hx (j + 1 + r) (by omega))
    have h2 := (dig_iff _).1 (hy (j + 1 + r) (by omega))
    rw [show j + 1 + (r + 1) = (j + 1 + r) + 1 from rfl, num_succ, num_succ, Nat.zero_add]
    omega

theorem num_congr {x y : ByteArray} : ∀ j, (∀ i, i < j → byt x i = byt y i) → num x 0 j = num y 0 j
  | 0, _ => rfl
  | j + 1, h => by rw [num_succ, num_succ, num_congr j (fun i hi => h i (by omega)), Nat.zero_add, h j (by omega)]

/-- The digits of d, with the sign t, name a number that an int64 holds. -/
def Within (d : ByteArray) (t : Bool) : Prop := d.size ≤ 19 ∧ num d 0 d.size ≤ lim t

theorem within_short {d : ByteArray} {t : Bool} (hd : ∀ i, i < d.size → dig (byt d i) = true) (h : d.size < 19) : Within d t := by
  have hb := num_bounds d 0 d.size (fun i hi => by rw [Nat.zero_add]; exact hd i hi)
  have hp : (10 : Int) ^ d.size ≤ 10 ^ 18 := by
    have := Nat.pow_le_pow_right (n := 10) (by omega) (show d.size ≤ 18 by omega)
    exact_mod_cast this
  have h10 : (10 : Int) ^ 18 = 1000000000000000000 := by decide
  have hl : 9223372036854775807 ≤ lim t := by unfold lim; split <;> omega
  exact ⟨by omega, by omega⟩

theorem within_eq {d : ByteArray} {t : Bool} (h : d.size = 19) (he : ∀ i, i < 19 → byt d i = byt (bnd t) i) : Within d t := by
  refine ⟨by omega, ?_⟩
  rw [h, num_congr 19 he, bnd_num]
  exact Int.le_refl _

theorem within_diff {d : ByteArray} {t : Bool} (hd : ∀ i, i < d.size → dig (byt d i) = true) (h : d.size = 19) {j : Nat} (hj : j < 19) (he : ∀ i, i < j → byt d i = byt (bnd t) i) (hne : byt d j ≠ byt (bnd t) j) :
    decide (byt d j < byt (bnd t) j) = true ↔ Within d t := by
  rw [h] at hd
  have e := num_congr j he
  unfold Within
  rw [h, ← bnd_num, decide_eq_true_iff]
  constructor
  · intro hl
    have := num_lt hd (bnd_dig t) e hl (18 - j) (by omega)
    rw [show j + 1 + (18 - j) = 19 from by omega] at this
    exact ⟨by omega, by omega⟩
  · intro ⟨_, hle⟩
    apply Classical.byContradiction
    intro hl
    have := num_lt (bnd_dig t) hd e.symm (by omega) (18 - j) (by omega)
    rw [show j + 1 + (18 - j) = 19 from by omega] at this
    omega

theorem eq_step {x y : ByteArray} {j : Nat} (h : ∀ i, i < j → byt x i = byt y i) (hj : byt x j = byt y j) : ∀ i, i < j + 1 → byt x i = byt y i := by
  intro i hi
  by_cases e : i = j
  · subst e; exact hj
  · exact h i (by omega)

set_option maxHeartbeats 1000000 in
theorem within_any (d : ByteArray) (t : Bool) (w : World) (hs : d.size ≤ maxLen) (hd : ∀ i, i < d.size → dig (byt d i) = true) :
    Calls Try.prog 20 #[.string d, .bool t] w fun e w' => ∃ r : Bool, e = .returned (.bool r) ∧ (r = true ↔ Within d t) ∧ ∃ n, w' = w.drewN n := by
  have hs' : d.size ≤ 9223372036854775807 := by unfold maxLen at hs; omega
  have HD : Hid (∀ i, i < d.size → dig (byt d i) = true) := hd
  clear hd
  by_cases h1 : d.size < 19
  · go_enter Try.func20, Try.ntmps20
    go_wp2
    go_ret
    exact ⟨true, rfl, ⟨fun _ => within_short HD.out h1, fun _ => rfl⟩, 0, rfl⟩
  · by_cases h2 : 19 < d.size
    · go_enter Try.func20, Try.ntmps20
      go_wp2
      go_ret
      exact ⟨false, rfl, ⟨fun h => absurd h (by simp), fun h => absurd h.1 (by omega)⟩, 0, rfl⟩
    · have h3 : Hid (d.size = 19) := show d.size = 19 by omega
      have h4 : 19 ≤ d.size := by omega
      go_enter Try.func20, Try.ntmps20
      go_upto_if 13 with fail
      go_cut [5] (fun v wr => v = .string (bnd t) ∧ w = wr)
      case first =>
        cases t
        all_goals
          go_wp2_with fail
          go_meet
          case rel => exact ⟨rfl, rfl⟩
      case rest =>
        obtain ⟨rfl, rfl⟩ := hcut
        have hb : 19 ≤ (bnd t).size := by rw [bnd_size]; omega
        go_wp2_with fail
        go_loopg [6] 19 (fun g i wr => ∃ j : Nat, j ≤ 19 ∧ g = 19 - j ∧ i = .int .i64 j ∧ (∀ i, i < j → byt d i = byt (bnd t) i) ∧ ∃ n, wr = w.drewN n)
        case atStart => exact ⟨0, by omega, rfl, rfl, fun i h => absurd h (by omega), 0, rfl⟩
        case round =>
          obtain ⟨j, j1, hg, rfl, hall, n, rfl⟩ := hrel
          have HA : Hid (∀ i, i < j → byt d i = byt (bnd t) i) := hall
          clear hall
          by_cases hlt : j < 19
          · have hjd : j < d.size := by omega
            have hjb : j < (bnd t).size := by omega
            have e1 : Hid (byt d j = (d[j].toNat : Int)) := byt_at d j (by omega)
            have e2 : Hid (byt (bnd t) j = ((bnd t)[j].toNat : Int)) := byt_at (bnd t) j (by omega)
            cases hne : ((d[j].toNat : Int) != ((bnd t)[j].toNat : Int))
            · go_wp2
              go_quiet (fail)
              go_wp2
              go_roundg (19 - (j + 1))
              case measure => omega
              case rel => exact ⟨j + 1, by omega, rfl, by go_num, eq_step HA.out (by rw [e1.out, e2.out]; simpa using hne), _, rfl⟩
            · go_wp2
              go_quiet (fail)
              go_wp2
              go_quiet (fail)
              go_wp2
              go_ret
              refine ⟨_, rfl, ?_, _, by rw [World.drewN_drewN, World.drewN_drewN]⟩
              rw [show decide (d[j].toNat < (bnd t)[j].toNat) = decide (byt d j < byt (bnd t) j) from by rw [e1.out, e2.out]; simp]
              exact within_diff HD.out h3.out hlt HA.out (by rw [e1.out, e2.out]; simpa using hne)
          · go_wp2_with fail
            go_ret
            obtain rfl : j = 19 := by omega
            exact ⟨true, rfl, ⟨fun _ => within_eq h3.out HA.out, fun _ => rfl⟩, _, rfl⟩

theorem num_mono (d : ByteArray) (hd : ∀ i, i < d.size → dig (byt d i) = true) {j : Nat} : ∀ r, j + r ≤ d.size → num d 0 j ≤ num d 0 (j + r)
  | 0, _ => Int.le_refl _
  | r + 1, h => by
    have ih := num_mono d hd (j := j) r (by omega)
    have h0 := (num_bounds d 0 (j + r) (fun i hi => by rw [Nat.zero_add]; exact hd i (by omega))).1
    have h1 := (dig_iff _).1 (hd (j + r) (by omega))
    rw [show j + (r + 1) = (j + r) + 1 from rfl, num_succ, Nat.zero_add]
    omega

theorem dv_pos {d : ByteArray} (hd : ∀ i, i < d.size → dig (byt d i) = true) (hw : Within d false) {j : Nat} (hlt : j < d.size) {X c : Int} (hX : X = sgn false (num d 0 j)) (hc : byt d j = c) :
    wrap64 (wrap64 (X * 10) + (c - 48)) = sgn false (num d 0 (j + 1)) := by
  have h1 := (dig_iff _).1 (hd j hlt)
  have h2 := (num_bounds d 0 j (fun i hi => by rw [Nat.zero_add]; exact hd i (by omega))).1
  have h3 := num_mono d hd (j := j + 1) (d.size - (j + 1)) (by omega)
  rw [show j + 1 + (d.size - (j + 1)) = d.size from by omega] at h3
  have h4 := hw.2
  simp only [sgn, lim, Bool.false_eq_true, if_false] at hX h4 ⊢
  rw [num_succ, Nat.zero_add, hc] at h3 ⊢
  rw [hc] at h1
  subst hX
  unfold wrap64
  omega

theorem dv_neg {d : ByteArray} (hd : ∀ i, i < d.size → dig (byt d i) = true) (hw : Within d true) {j : Nat} (hlt : j < d.size) {X c : Int} (hX : X = sgn true (num d 0 j)) (hc : byt d j = c) :
    wrap64 (wrap64 (X * 10) - (c - 48)) = sgn true (num d 0 (j + 1)) := by
  have h1 := (dig_iff _).1 (hd j hlt)
  have h2 := (num_bounds d 0 j (fun i hi => by rw [Nat.zero_add]; exact hd i (by omega))).1
  have h3 := num_mono d hd (j := j + 1) (d.size - (j + 1)) (by omega)
  rw [show j + 1 + (d.size - (j + 1)) = d.size from by omega] at h3
  have h4 := hw.2
  simp only [sgn, lim, if_true] at hX h4 ⊢
  rw [num_succ, Nat.zero_add, hc] at h3 ⊢
  rw [hc] at h1
  subst hX
  unfold wrap64
  omega

set_option maxHeartbeats 1000000 in
theorem decimalValue_any (d : ByteArray) (t : Bool) (w : World) (hs : d.size ≤ maxLen) (hd : ∀ i, i < d.size → dig (byt d i) = true) (hw : Within d t) :
    Calls Try.prog 21 #[.string d, .bool t] w fun e w' => e = .returned (.int .i64 (sgn t (num d 0 d.size))) ∧ w = w' := by
  have hs' : d.size ≤ 9223372036854775807 := by unfold maxLen at hs; omega
  have HD : Hid (∀ i, i < d.size → dig (byt d i) = true) := hd
  have HW : Hid (Within d t) := hw
  clear hd hw
  go_enter Try.func21, Try.ntmps21
  go_wp2_with fail
  go_loopg [5, 6, 7] d.size (fun g x i k wr => ∃ j : Nat, j ≤ d.size ∧ g = d.size - j ∧ i = .int .i64 j ∧ x = .int .i64 (sgn t (num d 0 j)) ∧ w = wr)
  case atStart => exact ⟨0, by omega, rfl, rfl, by cases t <;> rfl, rfl⟩
  case round =>
    obtain ⟨j, j1, hg, rfl, rfl, rfl⟩ := hrel
    obtain ⟨X, hX⟩ : ∃ X, X = sgn t (num d 0 j) := ⟨_, rfl⟩
    rw [← hX]
    have HX : Hid (X = sgn t (num d 0 j)) := hX
    clear hX
    by_cases hlt : j < d.size
    · have e1 : Hid (byt d j = (d[j].toNat : Int)) := byt_at d j (by omega)
      have g1 : 48 ≤ (d[j].toNat : Int) := by rw [← e1.out]; exact ((dig_iff _).1 (HD.out j hlt)).1
      have g2 : (d[j].toNat : Int) ≤ 57 := by rw [← e1.out]; exact ((dig_iff _).1 (HD.out j hlt)).2
      cases t
      · go_wp2
        go_roundg (d.size - (j + 1))
        case measure => omega
        case rel => exact ⟨j + 1, by omega, rfl, by go_num, by rw [dv_pos HD.out HW.out hlt HX.out e1.out], rfl⟩
      · go_wp2
        go_roundg (d.size - (j + 1))
        case measure => omega
        case rel => exact ⟨j + 1, by omega, rfl, by go_num, by rw [dv_neg HD.out HW.out hlt HX.out e1.out], rfl⟩
    · go_wp2
      go_ret
      obtain rfl : j = d.size := by omega
      exact ⟨ret_int HX.out, rfl⟩

end Go.Proofs.Qxb6603247a
