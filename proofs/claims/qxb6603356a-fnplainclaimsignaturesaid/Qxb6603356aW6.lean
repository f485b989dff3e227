import Derived.Test.Qxb6603356aW2
namespace Go.Proofs.Qxb6603356a
open Go.RowKit

set_option maxRecDepth 100000 in
set_option maxHeartbeats 1000000 in
theorem lcp_any (x y : ByteArray) (w : World) (hx : x.size ≤ 1048576) (hy : y.size ≤ 1048576) :
    Calls Try.prog 28 #[.string x, .string y] w fun e w' => ∃ N n : Nat, e = .returned (.int .i64 N) ∧ N ≤ x.size ∧ N ≤ y.size ∧ (∀ I, I ≤ x.size → I ≤ y.size → (∀ i, i < I → byt x i = byt y i) → I ≤ N) ∧ w' = w.drewN n := by
  go_enter Try.func28, Try.ntmps28
  go_wp2_with fail
  go_loopg [5] x.size (fun g v wr => ∃ k n : Nat, k ≤ x.size ∧ k ≤ y.size ∧ g = x.size - k ∧ v = .int .i64 k ∧ wr = w.drewN n)
  case atStart => exact ⟨0, 0, by omega, by omega, rfl, rfl, rfl⟩
  case round =>
    obtain ⟨k, n, k1, k2, hg, rfl, rfl⟩ := hrel
    by_cases hk1 : k < x.size
    · by_cases hk2 : k < y.size
      · have e1 : Hid (byt x k = (x[k].toNat : Int)) := byt_at x k hk1
        have e2 : Hid (byt y k = (y[k].toNat : Int)) := byt_at y k hk2
        cases hc : ((x[k].toNat : Int) == (y[k].toNat : Int))
        · go_wp2
          go_quiet (fail)
          go_wp2
          go_ret
          refine ⟨k, _, rfl, k1, k2, fun I i1 i2 hI => ?_, World.drewN_drewN _ _ _⟩
          apply Classical.byContradiction
          intro hn
          have := hI k (by omega)
          rw [e1.out, e2.out] at this
          simp [this] at hc
        · go_wp2
          go_quiet (fail)
          go_wp2
          go_roundg (x.size - (k + 1))
          case measure => omega
          case rel => exact ⟨k + 1, _, by omega, by omega, rfl, by go_num, rfl⟩
      · have hd : decide (k < y.size) = false := by simpa using hk2
        go_wp2
        go_quiet (fail)
        go_wp2
        go_ret
        exact ⟨k, _, rfl, k1, k2, fun I i1 i2 hI => by omega, World.drewN_drewN _ _ _⟩
    · have hd : decide (k < x.size) = false := by simpa using hk1
      go_wp2
      go_quiet (fail)
      go_wp2
      go_ret
      exact ⟨k, _, rfl, k1, k2, fun I i1 i2 hI => by omega, World.drewN_drewN _ _ _⟩

set_option maxRecDepth 100000 in
set_option maxHeartbeats 1000000 in
theorem lcs_any (x y : ByteArray) (w : World) (hx : x.size ≤ 1048576) (hy : y.size ≤ 1048576) :
    Calls Try.prog 29 #[.string x, .string y] w fun e w' => ∃ N n : Nat, e = .returned (.int .i64 N) ∧ N ≤ x.size ∧ N ≤ y.size ∧ (∀ I, I ≤ x.size → I ≤ y.size → (∀ i, i < I → byt x (x.size - 1 - i) = byt y (y.size - 1 - i)) → I ≤ N) ∧ w' = w.drewN n := by
  go_enter Try.func29, Try.ntmps29
  go_wp2_with fail
  go_loopg [5] x.size (fun g v wr => ∃ k n : Nat, k ≤ x.size ∧ k ≤ y.size ∧ g = x.size - k ∧ v = .int .i64 k ∧ wr = w.drewN n)
  case atStart => exact ⟨0, 0, by omega, by omega, rfl, rfl, rfl⟩
  case round =>
    obtain ⟨k, n, k1, k2, hg, rfl, rfl⟩ := hrel
    by_cases hk1 : k < x.size
    · by_cases hk2 : k < y.size
      · obtain ⟨a, ha⟩ : ∃ a, a = x.size - 1 - k := ⟨_, rfl⟩
        obtain ⟨b, hb⟩ : ∃ b, b = y.size - 1 - k := ⟨_, rfl⟩
        have ha1 : a < x.size := by omega
        have hb1 : b < y.size := by omega
        have ea : (x.size : Int) - 1 - (k : Int) = (a : Int) := by omega
        have eb : (y.size : Int) - 1 - (k : Int) = (b : Int) := by omega
        have e1 : Hid (byt x a = (x[a].toNat : Int)) := byt_at x a ha1
        have e2 : Hid (byt y b = (y[b].toNat : Int)) := byt_at y b hb1
        have HA : Hid (a = x.size - 1 - k) := ha
        have HB : Hid (b = y.size - 1 - k) := hb
        clear ha hb
        cases hc : ((x[a].toNat : Int) == (y[b].toNat : Int))
        · go_wp2
          go_quiet (fail)
          go_wp2
          go_ret
          refine ⟨k, _, rfl, k1, k2, fun I i1 i2 hI => ?_, World.drewN_drewN _ _ _⟩
          apply Classical.byContradiction
          intro hn
          have := hI k (by omega)
          rw [← HA.out, ← HB.out, e1.out, e2.out] at this
          simp [this] at hc
        · go_wp2
          go_quiet (fail)
          go_wp2
          go_roundg (x.size - (k + 1))
          case measure => omega
          case rel => exact ⟨k + 1, _, by omega, by omega, rfl, by go_num, rfl⟩
      · have hd : decide (k < y.size) = false := by simpa using hk2
        go_wp2
        go_quiet (fail)
        go_wp2
        go_ret
        exact ⟨k, _, rfl, k1, k2, fun I i1 i2 hI => by omega, World.drewN_drewN _ _ _⟩
    · have hd : decide (k < x.size) = false := by simpa using hk1
      go_wp2
      go_quiet (fail)
      go_wp2
      go_ret
      exact ⟨k, _, rfl, k1, k2, fun I i1 i2 hI => by omega, World.drewN_drewN _ _ _⟩

/-- Place I is a hole of e: the texts oa and ob are e with a, with b laid in there. -/
structure Hole (e a oa b ob : ByteArray) (I : Nat) : Prop where
  hi : I ≤ e.size
  sa : oa.size = e.size + a.size
  sb : ob.size = e.size + b.size
  pa : ∀ i, i < I → byt e i = byt oa i
  pb : ∀ i, i < I → byt e i = byt ob i
  ta : ∀ i, i < e.size - I → byt e (e.size - 1 - i) = byt oa (oa.size - 1 - i)
  tb : ∀ i, i < e.size - I → byt e (e.size - 1 - i) = byt ob (ob.size - 1 - i)
  ma : oa.extract I (I + a.size) = a
  mb : ob.extract I (I + b.size) = b

set_option maxRecDepth 100000 in
set_option maxHeartbeats 1000000 in
theorem sameHole_any (e a oa b ob : ByteArray) (I : Nat) (w : World) (he : e.size ≤ 262144) (ha : a.size ≤ 262144) (hb : b.size ≤ 262144) (h : Hole e a oa b ob I) :
    Calls Try.prog 16 #[.string e, .string a, .string oa, .string b, .string ob] w fun x w' => x = .returned (.bool true) ∧ ∃ n, w' = w.drewN n := by
  have H : Hid (Hole e a oa b ob I) := h
  have sa := h.sa
  have sb := h.sb
  have hI := h.hi
  clear h
  have q1 : ((oa.size : Int) != (e.size : Int) + (a.size : Int)) = false := by simp; omega
  have q2 : ((ob.size : Int) != (e.size : Int) + (b.size : Int)) = false := by simp; omega
  have SA : oa.size ≤ 524288 := by omega
  have SB : ob.size ≤ 524288 := by omega
  have HSA : Hid (oa.size = e.size + a.size) := sa
  have HSB : Hid (ob.size = e.size + b.size) := sb
  clear sa sb
  go_enter Try.func16, Try.ntmps16
  go_wp2_with fail
  refine (lcp_any e oa _ (by omega) (by omega)).mono ?_
  rintro x w1 ⟨pa, n1, rfl, pa1, pa2, pa3, rfl⟩
  have hpa : I ≤ pa := pa3 I hI (by have := HSA.out; omega) H.out.pa
  clear pa3
  go_wp2_with fail
  refine (lcp_any e ob _ (by omega) (by omega)).mono ?_
  rintro x w1 ⟨pb, n2, rfl, pb1, pb2, pb3, rfl⟩
  have hpb : I ≤ pb := pb3 I hI (by have := HSB.out; omega) H.out.pb
  clear pb3
  go_wp2_with fail
  refine (lcs_any e oa _ (by omega) (by omega)).mono ?_
  rintro x w1 ⟨ta, n3, rfl, ta1, ta2, ta3, rfl⟩
  have hta : e.size - I ≤ ta := ta3 (e.size - I) (by omega) (by have := HSA.out; omega) H.out.ta
  clear ta3
  go_wp2_with fail
  refine (lcs_any e ob _ (by omega) (by omega)).mono ?_
  rintro x w1 ⟨tb, n4, rfl, tb1, tb2, tb3, rfl⟩
  have htb : e.size - I ≤ tb := tb3 (e.size - I) (by omega) (by have := HSB.out; omega) H.out.tb
  clear tb3
  go_wp2_with fail
  go_loopg [15] I (fun g v wr => ∃ k n : Nat, k ≤ I ∧ g = I - k ∧ v = .int .i64 k ∧ wr = w.drewN n)
  case atStart => exact ⟨0, _, by omega, rfl, rfl, rfl⟩
  case round =>
    obtain ⟨k, n, hk, hg, rfl, rfl⟩ := hrel
    have ka : k + a.size ≤ oa.size := by have := HSA.out; omega
    have kb : k + b.size ≤ ob.size := by have := HSB.out; omega
    have kpa : k ≤ pa := by omega
    have kpb : k ≤ pb := by omega
    by_cases hkI : k = I
    · have c1 : ¬ (ta : Int) < (e.size : Int) - (k : Int) := by omega
      have c2 : ¬ (tb : Int) < (e.size : Int) - (k : Int) := by omega
      have c3 : ((oa.extract k (k + a.size)).toList == a.toList) = true := by rw [hkI, H.out.ma]; simp
      have c4 : ((ob.extract k (k + b.size)).toList == b.toList) = true := by rw [hkI, H.out.mb]; simp
      clear hkI
      go_wp2_with fail
      go_ret
      exact ⟨rfl, n, rfl⟩
    · by_cases c1 : (ta : Int) < (e.size : Int) - (k : Int)
      · go_wp2_with fail
        go_roundg (I - (k + 1))
        case measure => omega
        case rel => exact ⟨k + 1, n, by omega, rfl, by go_num, rfl⟩
      · by_cases c2 : (tb : Int) < (e.size : Int) - (k : Int)
        · go_wp2_with fail
          go_roundg (I - (k + 1))
          case measure => omega
          case rel => exact ⟨k + 1, n, by omega, rfl, by go_num, rfl⟩
        · cases c3 : ((oa.extract k (k + a.size)).toList == a.toList)
          · go_wp2_with fail
            go_roundg (I - (k + 1))
            case measure => omega
            case rel => exact ⟨k + 1, n, by omega, rfl, by go_num, rfl⟩
          · cases c4 : ((ob.extract k (k + b.size)).toList == b.toList)
            · go_wp2_with fail
              go_roundg (I - (k + 1))
              case measure => omega
              case rel => exact ⟨k + 1, n, by omega, rfl, by go_num, rfl⟩
            · go_wp2_with fail
              go_ret
              exact ⟨rfl, n, rfl⟩

end Go.Proofs.Qxb6603356a
