import Derived.Test.Qxb6603247aW6
import Derived.Test.Qxb6603247aW9
import Derived.OpenShut
namespace Go.Proofs.Qxb6603247a
open Go.RowKit

theorem byt_append (x y : ByteArray) (i : Nat) : byt (x ++ y) i = if i < x.size then byt x i else byt y (i - x.size) := by
  unfold byt
  rw [ByteArray.data_append, Array.toList_append, List.getD_eq_getElem?_getD, List.getElem?_append]
  have : x.data.toList.length = x.size := by simp
  rw [this]
  split <;> rw [List.getD_eq_getElem?_getD]

/-- The law's text around D. -/
def around (D : ByteArray) : ByteArray := ⟨#[32, 9, 10, 13]⟩ ++ D ++ ⟨#[32, 93]⟩

theorem around_size (D : ByteArray) : (around D).size = 4 + D.size + 2 := by
  simp [around, ByteArray.size_append]
  rfl

theorem around_pre (D : ByteArray) (i : Nat) (h : i < 4) : wht (byt (around D) i) = true := by
  have h1 : i < (⟨#[32, 9, 10, 13]⟩ ++ D : ByteArray).size := by
    rw [ByteArray.size_append]; show i < 4 + D.size; omega
  unfold around
  rw [byt_append, if_pos h1, byt_append, if_pos (show i < (⟨#[32, 9, 10, 13]⟩ : ByteArray).size from h)]
  have : i = 0 ∨ i = 1 ∨ i = 2 ∨ i = 3 := by omega
  rcases this with h | h | h | h <;> subst h <;> decide

theorem around_mid (D : ByteArray) (i : Nat) (h : i < D.size) : byt (around D) (4 + i) = byt D i := by
  have h1 : 4 + i < (⟨#[32, 9, 10, 13]⟩ ++ D : ByteArray).size := by
    rw [ByteArray.size_append]; show 4 + i < 4 + D.size; omega
  unfold around
  rw [byt_append, if_pos h1, byt_append, if_neg (show ¬ 4 + i < (⟨#[32, 9, 10, 13]⟩ : ByteArray).size from fun h => absurd (show 4 + i < 4 from h) (by omega))]
  congr 1
  show 4 + i - 4 = i
  omega

theorem around_post (D : ByteArray) : byt (around D) (4 + D.size) = 32 := by
  have h0 : (⟨#[32, 9, 10, 13]⟩ ++ D : ByteArray).size = 4 + D.size := by rw [ByteArray.size_append]; rfl
  unfold around
  rw [byt_append, if_neg (by omega), h0, Nat.sub_self]
  decide

theorem dig_not_white {c : Int} (h : dig c = true) : wht c = false := by
  have := (dig_iff _).1 h
  unfold wht
  simp
  omega

theorem mag_le {v : Int} {t : Bool} (h1 : -9223372036854775808 ≤ v) (h2 : v ≤ 9223372036854775807) : mag t v ≤ lim t := by
  unfold mag lim; cases t <;> simp <;> omega

theorem sgn_mag (t : Bool) (v : Int) : sgn t (mag t v) = v := by
  unfold sgn mag; cases t <;> simp

theorem own_read {v : Int} {D : ByteArray} {m : Nat} {T : Bool} (h : Dec v D m T) (v1 : -9223372036854775808 ≤ v) (v2 : v ≤ 9223372036854775807) {b : Nat} {w w' : World} {e : Ending} (hp : ReadPost (around D) 0 false b w e w') :
    e = .returned (.int .i64 v) ∧ Keeps b w w' ∧ Rdr w' b (around D) ((4 + D.size : Nat) : Int) false := by
  obtain ⟨k, a, j, t, hk, ht, hj, hkeep, hr⟩ := hp
  have hsz := around_size D
  have hDs := h.size
  have hm1 := h.m1
  have e0 : byt (around D) 4 = byt D 0 := by have := around_mid D 0 (by omega); rwa [Nat.add_zero] at this
  have hne : T = false → dig (byt D 0) = true := fun hT => by
    have := h.digs 0 (by omega)
    rw [hT] at this
    exact this
  have k4 : Stop wht (around D) 0 4 := by
    refine ⟨by omega, by omega, fun i _ hi => around_pre D i hi, fun _ => ?_⟩
    rw [e0]
    cases T
    · exact dig_not_white (hne rfl)
    · rw [h.sign rfl]; decide
  obtain rfl : k = 4 := stop_uniq hk k4
  have hta : t = T ∧ a = 4 + off T := by
    cases T <;> cases t
    · exact ⟨rfl, (ht.2 rfl).1⟩
    · obtain ⟨_, _, h3, _⟩ := ht.1 rfl
      rw [e0] at h3
      have := (dig_iff _).1 (hne rfl)
      omega
    · obtain ⟨_, h3⟩ := ht.2 rfl
      rcases h3 with h3 | h3 | h3
      · exact absurd h3 (by simp)
      · omega
      · exact absurd (by rw [e0]; exact h.sign rfl) h3
    · exact ⟨rfl, (ht.1 rfl).2.2.2⟩
  obtain ⟨rfl, ha⟩ := hta
  have hmid : ∀ r, r < m → byt (around D) (a + r) = byt D (off t + r) := fun r hr => by
    rw [ha, Nat.add_assoc]; exact around_mid D (off t + r) (by omega)
  have hjm : Stop dig (around D) a (a + m) := by
    refine ⟨by omega, by omega, fun i h1 h2 => ?_, fun _ => ?_⟩
    · obtain ⟨r, rfl⟩ : ∃ r, i = a + r := ⟨i - a, by omega⟩
      rw [hmid r (by omega)]; exact h.digs r (by omega)
    · rw [show a + m = 4 + D.size from by omega, around_post]; decide
  obtain rfl : j = a + m := stop_uniq hj hjm
  have hnum : num (around D) a (a + m - a) = mag t v := by
    rw [show a + m - a = m from by omega, ← h.val, num_numf, num_numf]
    exact numf_congr _ hmid
  have hacc : Acc (around D) false t a (a + m) := by
    refine ⟨rfl, by omega, by have := h.m19; omega, fun ⟨g1, g2⟩ => ?_, by rw [hnum]; exact mag_le v1 v2⟩
    have g3 := hmid 0 (by omega)
    rw [Nat.add_zero, Nat.add_zero] at g3
    exact h.lead (by omega) (by rw [← g3]; exact g2)
  rcases hr with ⟨_, he, hrd⟩ | ⟨hn, _, _⟩
  · rw [hnum, sgn_mag] at he
    rw [show a + m = 4 + D.size from by omega] at hrd
    exact ⟨he, hkeep, hrd⟩
  · exact absurd hacc hn

set_option maxHeartbeats 2000000 in
theorem walk7 (v : Int) (hv : (Lit.int .i64 v).wf = true) (w : World) :
    Calls Try.prog 7 #[.int .i64 v] w fun e w' => e = .returned (.bool true) ∧ Grown w w' := by
  obtain ⟨v1, v2⟩ := bounds_i64 hv
  go_enter Try.func7, Try.ntmps7
  go_wp2_with fail
  refine (decimal_t v (decide (v < 0)) _ v1 v2 rfl).mono ?_
  rintro e w1 ⟨D, m, rfl, hd, hg⟩
  have hD : D.size ≤ 20 := by
    have h1 := hd.size; have h2 := hd.m19
    unfold off at h1; split at h1 <;> omega
  have HD : Hid (Dec v D m (decide (v < 0))) := hd
  clear hd
  go_wp2_with fail
  obtain ⟨S, hS⟩ : ∃ S, S = around D := ⟨_, rfl⟩
  have hS' := hS
  unfold around at hS'
  rw [← hS']
  have HS : Hid (S = around D) := hS
  have hsz : S.size = 4 + D.size + 2 := by rw [hS]; exact around_size D
  have hsm : S.size ≤ maxLen := by unfold maxLen; omega
  have HZ : Hid (S.size = 4 + D.size + 2) := hsz
  clear hsz hS hS'
  refine (newReader S 0 false _).mono ?_
  rintro e w2 ⟨rfl, rfl⟩
  go_wp2_with fail
  refine (readInt_any S 0 false w1.heap.size _ hsm (Nat.zero_le _) (rdr_new _ _ _ _)).mono ?_
  intro e w2 hp
  rw [HS.out] at hp
  obtain ⟨rfl, hk, hr⟩ := own_read HD.out v1 v2 hp
  rw [← HS.out] at hr
  have hg : Grown w w2 := hk w hg.2.2 (hg.alloc _ _)
  clear hk hp
  go_wp2_with fail
  refine (state_any S _ false w1.heap.size _ hr).mono ?_
  rintro e w3 ⟨rfl, n, rfl⟩
  have hg : Grown w (w2.drewN n) := hg
  have hfin : (4 + (D.size : Int) == wrap64 ((S.size : Int) - 2)) = true := by
    rw [HZ.out]; unfold wrap64; simp; omega
  go_wp2_with fail
  go_ret
  exact ⟨rfl, hg⟩

end Go.Proofs.Qxb6603247a
