import Derived.Test.Qxb6603247aW7
import Derived.WalkSpells
namespace Go.Proofs.Qxb6603247a
open Go.RowKit

/-- The bytes of a part. -/
theorem byt_extract (s : ByteArray) (a j i : Nat) (hj : j ≤ s.size) (hi : i < j - a) : byt (s.extract a j) i = byt s (a + i) := by
  have h1 : i < (s.extract a j).size := by simp; omega
  have h2 : a + i < s.size := by omega
  rw [byt_at _ _ h1, byt_at _ _ h2]
  simp [ByteArray.getElem_extract]

theorem num_extract (s : ByteArray) (a j : Nat) (hj : j ≤ s.size) : ∀ m, m ≤ j - a → num (s.extract a j) 0 m = num s a m
  | 0, _ => rfl
  | m + 1, h => by rw [num_succ, num_succ, num_extract s a j hj m (by omega), Nat.zero_add, byt_extract s a j m hj (by omega)]

theorem ext_size (s : ByteArray) (a j : Nat) (hj : j ≤ s.size) : (s.extract a j).size = j - a := by simp; omega

theorem ext_dig {s : ByteArray} {a j : Nat} (h : Stop dig s a j) : ∀ i, i < (s.extract a j).size → dig (byt (s.extract a j) i) = true := by
  intro i hi
  rw [ext_size s a j h.hi] at hi
  rw [byt_extract s a j i h.hi hi]
  exact h.all _ (by omega) (by omega)

theorem acc_iff2 {s : ByteArray} {t : Bool} {a j : Nat} (h : Stop dig s a j) {D : ByteArray} (hD : D = s.extract a j) : Acc s false t a j ↔ 1 ≤ D.size ∧ ¬ (1 < D.size ∧ byt D 0 = 48) ∧ Within D t := by
  subst hD
  have h1 := ext_size s a j h.hi
  have h2 : 1 ≤ (s.extract a j).size → byt (s.extract a j) 0 = byt s a := fun h' => byt_extract s a j 0 h.hi (by omega)
  unfold Acc Within
  constructor
  · rintro ⟨_, g2, g3, g4, g5⟩
    refine ⟨by omega, fun ⟨x, y⟩ => g4 ⟨by omega, by rw [← h2 (by omega)]; exact y⟩, by omega, ?_⟩
    rw [h1, num_extract s a j h.hi _ (Nat.le_refl _)]; exact g5
  · rintro ⟨g2, g3, g4, g5⟩
    refine ⟨rfl, by omega, by omega, fun ⟨x, y⟩ => g3 ⟨by omega, by rw [h2 g2]; exact y⟩, ?_⟩
    rw [h1, num_extract s a j h.hi _ (Nat.le_refl _)] at g5; exact g5

theorem acc_no_none {s D : ByteArray} {t : Bool} {a j : Nat} (h : Acc s false t a j ↔ 1 ≤ D.size ∧ ¬ (1 < D.size ∧ byt D 0 = 48) ∧ Within D t) (h0 : ¬ 1 ≤ D.size) : false = true ↔ Acc s false t a j :=
  ⟨fun x => absurd x (by simp), fun x => absurd (h.1 x).1 h0⟩
theorem acc_no_zero {s D : ByteArray} {t : Bool} {a j : Nat} (h : Acc s false t a j ↔ 1 ≤ D.size ∧ ¬ (1 < D.size ∧ byt D 0 = 48) ∧ Within D t) (h1 : 1 < D.size) (hc : byt D 0 = 48) : false = true ↔ Acc s false t a j :=
  ⟨fun x => absurd x (by simp), fun x => absurd ⟨h1, hc⟩ (h.1 x).2.1⟩
theorem acc_within {s D : ByteArray} {t r : Bool} {a j : Nat} (h : Acc s false t a j ↔ 1 ≤ D.size ∧ ¬ (1 < D.size ∧ byt D 0 = 48) ∧ Within D t) (h0 : 1 ≤ D.size) (h1 : ¬ (1 < D.size ∧ byt D 0 = 48)) (hr : r = true ↔ Within D t) : r = true ↔ Acc s false t a j :=
  ⟨fun x => h.2 ⟨h0, h1, hr.1 x⟩, fun x => hr.2 (h.1 x).2.2⟩

set_option maxRecDepth 100000 in
set_option maxHeartbeats 2000000 in
theorem walk6 (s : ByteArray) (p : Int) (f : Bool) (hs : s.size ≤ maxLen) (w : World) :
    Calls Try.prog 6 #[.string s, .int .i64 p, .bool f] w fun e w' => e = .returned (.bool true) ∧ Grown w w' := by
  have hs' : s.size ≤ 9223372036854775807 := by unfold maxLen at hs; omega
  by_cases hz : s.size ≤ 1048576
  · by_cases hp0 : p < 0
    · go_enter Try.func6, Try.ntmps6
      go_wp2_with (go_at_call 16; refine (bytes16 s p f _ hs).mono ?_; rintro e w' ⟨rfl, rfl⟩)
      go_ret
      exact ⟨rfl, Grown.refl _⟩
    · by_cases hp1 : (s.size : Int) < p
      · go_enter Try.func6, Try.ntmps6
        go_wp2_with (go_at_call 16; refine (bytes16 s p f _ hs).mono ?_; rintro e w' ⟨rfl, rfl⟩)
        go_ret
        exact ⟨rfl, Grown.refl _⟩
      · obtain ⟨q, rfl⟩ : ∃ q : Nat, p = (q : Int) := ⟨p.toNat, by omega⟩
        have hq : q ≤ s.size := by omega
        clear hp0 hp1
        go_enter Try.func6, Try.ntmps6
        go_wp2_with (go_at_call 16; refine (bytes16 s q f _ hs).mono ?_; rintro e w' ⟨rfl, rfl⟩)
        refine (newReader s q f _).mono ?_
        rintro e w1 ⟨rfl, rfl⟩
        go_wp2_with fail
        refine (readInt_any s q f w.heap.size _ hs hq (rdr_new _ _ _ _)).mono ?_
        rintro e w2 ⟨k, a, j, t, hst, htk, hsj, hk, hread⟩
        have hg : Grown w w2 := hk w (Nat.le_refl _) (grown_new _ _ _ _)
        clear hk
        obtain ⟨V, g, he, hr, hV⟩ : ∃ (V : Int) (g : Bool), e = .returned (.int .i64 V) ∧ Rdr w2 w.heap.size s j g ∧ ((Acc s f t a j ∧ V = sgn t (num s a (j - a)) ∧ g = false) ∨ (¬ Acc s f t a j ∧ V = 0 ∧ g = true)) := by
          rcases hread with ⟨x1, x2, x3⟩ | ⟨x1, x2, x3⟩
          · exact ⟨_, _, x2, x3, Or.inl ⟨x1, rfl, rfl⟩⟩
          · exact ⟨_, _, x2, x3, Or.inr ⟨x1, rfl, rfl⟩⟩
        clear hread
        subst he
        have HV : Hid ((Acc s f t a j ∧ V = sgn t (num s a (j - a)) ∧ g = false) ∨ (¬ Acc s f t a j ∧ V = 0 ∧ g = true)) := hV
        clear hV
        go_wp2_with fail
        refine (state_any s j g w.heap.size _ hr).mono ?_
        rintro e w3 ⟨rfl, n, rfl⟩
        have hg : Grown w (w2.drewN n) := hg
        clear hr
        have HT : Hid (Took2 s f 45 k a t) := htk
        have HJ : Hid (Stop dig s a j) := hsj
        have HS : Hid (Stop wht s q k) := hst
        have hk2 := hst.hi
        clear htk hsj hst
        go_wp2_with fail
        refine (whiteEnd_any s q _ hs hq).mono ?_
        rintro e w4 ⟨k', rfl, hst', rfl⟩
        have hkk : k' = k := stop_uniq hst' HS.out
        clear hst'
        subst hkk
        go_upto_region 13 with fail
        go_cut [63] (fun v wr => v = .bool t ∧ Grown w wr)
        case first =>
          cases t
          · obtain ⟨-, hc⟩ := HT.out.2 rfl
            cases f
            · by_cases hlt : k' < s.size
              · have hne : ((s[k'].toNat : Int) == 45) = false := by
                  rcases hc with hc | hc | hc
                  · exact absurd hc (by simp)
                  · omega
                  · rw [byt_at s k' hlt] at hc; simpa using hc
                clear hc
                go_wp2_with fail
                go_meet
                case rel => exact ⟨rfl, hg⟩
              · have hd : decide (k' < s.size) = false := by simpa using hlt
                clear hc
                go_wp2_with fail
                go_meet
                case rel => exact ⟨rfl, hg⟩
            · clear hc
              go_wp2_with fail
              go_meet
              case rel => exact ⟨rfl, hg⟩
          · obtain ⟨rfl, hlt, hc, -⟩ := HT.out.1 rfl
            have hne : ((s[k'].toNat : Int) == 45) = true := by rw [byt_at s k' hlt] at hc; simpa using hc
            clear hc
            go_wp2_with fail
            go_meet
            case rel => exact ⟨rfl, hg⟩
        case rest =>
          clear hg
          obtain ⟨rfl, hg⟩ := hcut
          go_upto_if 63 with fail
          go_cut [13, 14] (fun v x wr => v = .bool t ∧ x = .int .i64 a ∧ Grown w wr)
          case first =>
            cases t
            · obtain ⟨hak, -⟩ := HT.out.2 rfl
              subst hak
              go_wp2_with fail
              go_meet
              case rel => exact ⟨rfl, rfl, hg⟩
            · obtain ⟨rfl, hlt, -, hak⟩ := HT.out.1 rfl
              subst hak
              go_wp2_with fail
              go_meet
              case rel => exact ⟨rfl, by go_num, hg⟩
          case rest =>
            clear hg
            obtain ⟨rfl, rfl, hg⟩ := hcut
            have j1 := HJ.out.lo
            have j2 := HJ.out.hi
            go_upto_block 0 with fail
            go_cut [15] (fun v wr => v = .int .i64 j ∧ Grown w wr)
            case first =>
              go_wp2_with fail
              go_loopg [15] (j - a) (fun g v wr => ∃ i : Nat, a ≤ i ∧ i ≤ j ∧ g = j - i ∧ v = .int .i64 i ∧ Grown w wr)
              case atStart => exact ⟨a, Nat.le_refl _, j1, rfl, rfl, hg⟩
              case round =>
                clear hg
                obtain ⟨i, i1, i2, hgk, rfl, hg⟩ := hrel
                by_cases hlt : i < j
                · have his : i < s.size := by omega
                  have hdg : dig (s[i].toNat : Int) = true := by rw [← byt_at]; exact HJ.out.all i i1 hlt
                  go_wp2_with (go_at_call 19; refine (isDigit_any _ _).mono ?_; rintro e w' ⟨rfl, rfl⟩)
                  go_roundg (j - (i + 1))
                  case measure => omega
                  case rel => exact ⟨i + 1, by omega, by omega, rfl, by go_num, hg⟩
                · obtain rfl : i = j := by omega
                  by_cases his : i < s.size
                  · have hdg : dig (s[i].toNat : Int) = false := by rw [← byt_at]; exact HJ.out.out his
                    go_wp2_with (go_at_call 19; refine (isDigit_any _ _).mono ?_; rintro e w' ⟨rfl, rfl⟩)
                    go_meet
                    case rel => exact ⟨rfl, hg⟩
                  · have hd : decide (i < s.size) = false := by simpa using his
                    go_wp2_with fail
                    go_meet
                    case rel => exact ⟨rfl, hg⟩
            case rest =>
              clear hg
              obtain ⟨rfl, hg⟩ := hcut
              go_upto_region 22 with fail
              obtain ⟨D, hD⟩ : ∃ D, D = s.extract a j := ⟨_, rfl⟩
              rw [← hD]
              have HA : Hid (Acc s false t a j ↔ 1 ≤ D.size ∧ ¬ (1 < D.size ∧ byt D 0 = 48) ∧ Within D t) := acc_iff2 HJ.out hD
              have HD : Hid (∀ i, i < D.size → dig (byt D i) = true) := by rw [hD]; exact ext_dig HJ.out
              have HN : Hid (num D 0 D.size = num s a (j - a)) := by
                unfold Hid
                rw [hD, ext_size s a j j2, num_extract s a j j2 _ (Nat.le_refl _)]
              have hDs : D.size ≤ s.size := by rw [hD, ext_size s a j j2]; omega
              clear hD
              have hDm : D.size ≤ maxLen := Nat.le_trans hDs hs
              go_cut [17] (fun v wr => ∃ r : Bool, v = .bool r ∧ (r = true ↔ Acc s f t a j) ∧ Grown w wr)
              case first =>
                cases f
                · by_cases d1 : 1 ≤ D.size
                  · have HB : Hid (byt D 0 = (D[0].toNat : Int)) := byt_at D 0 d1
                    by_cases d2 : 1 < D.size
                    · cases hc : ((D[0].toNat : Int) == 48)
                      · have hc' : ¬ (1 < D.size ∧ byt D 0 = 48) := fun x => by rw [HB.out] at x; simp [x.2] at hc
                        go_wp2_with (go_at_call 20; refine (within_any D t _ hDm HD.out).mono ?_; rintro e w' ⟨r, rfl, hr, n, rfl⟩)
                        go_meet
                        case rel => exact ⟨r, rfl, acc_within HA.out d1 hc' hr, hg⟩
                      · have hc' : byt D 0 = 48 := by rw [HB.out]; simpa using hc
                        have HC : Hid (byt D 0 = 48) := hc'
                        clear hc'
                        go_wp2_with fail
                        go_meet
                        case rel => exact ⟨false, rfl, acc_no_zero HA.out d2 HC.out, hg⟩
                    · have d2' : decide (1 < D.size) = false := by simpa using d2
                      have hc' : ¬ (1 < D.size ∧ byt D 0 = 48) := fun x => d2 x.1
                      go_wp2_with (go_at_call 20; refine (within_any D t _ hDm HD.out).mono ?_; rintro e w' ⟨r, rfl, hr, n, rfl⟩)
                      go_meet
                      case rel => exact ⟨r, rfl, acc_within HA.out d1 hc' hr, hg⟩
                  · have d1' : decide (1 ≤ D.size) = false := by simpa using d1
                    go_wp2_with fail
                    go_meet
                    case rel => exact ⟨false, rfl, acc_no_none HA.out d1, hg⟩
                · go_wp2_with fail
                  go_meet
                  case rel => exact ⟨false, rfl, ⟨fun h => absurd h (by simp), fun h => absurd h not_acc_failed⟩, hg⟩
              case rest =>
                clear hg
                obtain ⟨r, rfl, hr, hg⟩ := hcut
                cases r
                · have hna : ¬ Acc s f t a j := fun h => absurd (hr.2 h) (by simp)
                  obtain ⟨hx, -, -⟩ | ⟨-, rfl, rfl⟩ := HV.out
                  · exact absurd hx hna
                  · clear hr hna HV
                    go_wp2_with fail
                    go_ret
                    exact ⟨rfl, hg⟩
                · have hya : Acc s f t a j := hr.1 rfl
                  obtain ⟨-, hv, rfl⟩ | ⟨hx, -, -⟩ := HV.out
                  · clear hr HV
                    obtain rfl : f = false := hya.1
                    have hwi : Within D t := (HA.out.1 hya).2.2
                    rw [← HN.out] at hv
                    have hvv : (V == sgn t (num D 0 D.size)) = true := by rw [hv]; simp
                    clear hv hya
                    go_wp2_with (go_at_call 21; refine (decimalValue_any D t _ hDm HD.out hwi).mono ?_; rintro e w' ⟨rfl, rfl⟩)
                    go_ret
                    exact ⟨rfl, hg⟩
                  · exact absurd hya hx
  · go_enter Try.func6, Try.ntmps6
    go_wp2_with (go_at_call 16; refine (bytes16 s p f _ hs).mono ?_; rintro e w' ⟨rfl, rfl⟩)
    go_ret
    exact ⟨rfl, Grown.refl _⟩

end Go.Proofs.Qxb6603247a
