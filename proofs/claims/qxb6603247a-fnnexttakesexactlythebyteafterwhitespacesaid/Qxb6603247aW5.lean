import Derived.Test.Qxb6603247aW4
namespace Go.Proofs.Qxb6603247a
open Go.RowKit

set_option maxHeartbeats 1000000 in
theorem walk5 (s : ByteArray) (p : Int) (f : Bool) (c : Int) (hs : s.size ≤ maxLen) (w : World) :
    Calls Try.prog 5 #[.string s, .int .i64 p, .bool f, .int .u8 c] w fun e w' => e = .returned (.bool true) ∧ Grown w w' := by
  have hs' : s.size ≤ 9223372036854775807 := by unfold maxLen at hs; omega
  by_cases hz : s.size ≤ 1048576
  · by_cases hp0 : p < 0
    · go_enter Try.func5, Try.ntmps5
      go_wp2_with (go_at_call 14; refine (bytes14 s p f c _ hs).mono ?_; rintro e w' ⟨rfl, rfl⟩)
      go_ret
      exact ⟨rfl, Grown.refl _⟩
    · by_cases hp1 : (s.size : Int) < p
      · go_enter Try.func5, Try.ntmps5
        go_wp2_with (go_at_call 14; refine (bytes14 s p f c _ hs).mono ?_; rintro e w' ⟨rfl, rfl⟩)
        go_ret
        exact ⟨rfl, Grown.refl _⟩
      · obtain ⟨q, rfl⟩ : ∃ q : Nat, p = (q : Int) := ⟨p.toNat, by omega⟩
        have hq : q ≤ s.size := by omega
        clear hp0 hp1
        go_enter Try.func5, Try.ntmps5
        go_wp2_with (go_at_call 14; refine (bytes14 s q f c _ hs).mono ?_; rintro e w' ⟨rfl, rfl⟩)
        refine (newReader s q f _).mono ?_
        rintro e w1 ⟨rfl, rfl⟩
        go_wp2_with fail
        refine (zznext_any s q f c w.heap.size _ hs hq (rdr_new _ _ _ _)).mono ?_
        rintro e w2 ⟨k, hst, hk, ⟨rfl, rfl, hlt, hc, hr⟩ | ⟨rfl, hc, hr⟩⟩
        · have hg : Grown w w2 := hk w (Nat.le_refl _) (grown_new _ _ _ _)
          clear hk
          obtain ⟨k1, k2, kall, kout⟩ := hst
          have hcw : wht (s[k].toNat : Int) = false := by rw [← byt_at]; exact kout hlt
          have hc' : (s[k].toNat : Int) = c := by rw [← byt_at]; exact hc
          subst hc'
          clear hc kout
          go_wp2_with fail
          refine (state_any s ((k + 1 : Nat) : Int) false w.heap.size _ hr).mono ?_
          rintro e w3 ⟨rfl, n, rfl⟩
          have hg : Grown w (w2.drewN n) := hg
          clear hr
          have d1 : decide ((k : Int) + 1 < (q : Int)) = false := by simp; omega
          have d2 : decide ((s.size : Int) < (k : Int) + 1) = false := by simp; omega
          have d3 : ((k : Int) + 1 == (q : Int)) = false := by simp; omega
          go_wp2_with fail
          go_loopg [15] (k - q) (fun g i wr => ∃ j : Nat, q ≤ j ∧ j ≤ k ∧ g = k - j ∧ i = .int .i64 j ∧ Grown w wr)
          case atStart => exact ⟨q, Nat.le_refl _, k1, rfl, rfl, hg⟩
          case round =>
            obtain ⟨j, j1, j2, hgk, rfl, hg⟩ := hrel
            by_cases hjk : j < k
            · have hw : wht (s[j].toNat : Int) = true := by rw [← byt_at]; exact kall j j1 hjk
              go_wp2_with (go_at_call 12; refine (isWhite_any _ _).mono ?_; rintro e w' ⟨rfl, rfl⟩)
              go_roundg (k - (j + 1))
              case measure => omega
              case rel => exact ⟨j + 1, by omega, by omega, rfl, by go_num, hg⟩
            · go_wp2_with (go_at_call 12; refine (isWhite_any _ _).mono ?_; rintro e w' ⟨rfl, rfl⟩)
              go_ret
              exact ⟨rfl, hg⟩
        · have hg : Grown w w2 := hk w (Nat.le_refl _) (grown_new _ _ _ _)
          clear hk
          obtain ⟨k1, k2, kall, kout⟩ := hst
          go_wp2_with fail
          refine (state_any s k f w.heap.size _ hr).mono ?_
          rintro e w3 ⟨rfl, n, rfl⟩
          have hg : Grown w (w2.drewN n) := hg
          clear hr
          have d1 : decide (k < q) = false := by simp; omega
          have d2 : decide (s.size < k) = false := by simp; omega
          go_wp2_with fail
          go_loopg [16] (k - q) (fun g i wr => ∃ j : Nat, q ≤ j ∧ j ≤ k ∧ g = k - j ∧ i = .int .i64 j ∧ Grown w wr)
          case atStart => exact ⟨q, Nat.le_refl _, k1, rfl, rfl, hg⟩
          case round =>
            obtain ⟨j, j1, j2, hgk, rfl, hg⟩ := hrel
            by_cases hjk : j < k
            · have hw : wht (s[j].toNat : Int) = true := by rw [← byt_at]; exact kall j j1 hjk
              clear hc
              go_wp2_with (go_at_call 12; refine (isWhite_any _ _).mono ?_; rintro e w' ⟨rfl, rfl⟩)
              go_roundg (k - (j + 1))
              case measure => omega
              case rel => exact ⟨j + 1, by omega, by omega, rfl, by go_num, hg⟩
            · by_cases hlt : k < s.size
              · have hw : wht (s[k].toNat : Int) = false := by rw [← byt_at]; exact kout hlt
                have hne : ((k : Int) == (s.size : Int)) = false := by simp; omega
                cases f
                · have hcn : ((s[k].toNat : Int) != c) = true := by
                    rcases hc with hc | hc | hc
                    · exact absurd hc (by simp)
                    · omega
                    · rw [byt_at s k hlt] at hc; simpa using hc
                  clear hc kout
                  go_wp2_with (go_at_call 12; refine (isWhite_any _ _).mono ?_; rintro e w' ⟨rfl, rfl⟩)
                  go_ret
                  exact ⟨rfl, hg⟩
                · clear hc kout
                  go_wp2_with (go_at_call 12; refine (isWhite_any _ _).mono ?_; rintro e w' ⟨rfl, rfl⟩)
                  go_ret
                  exact ⟨rfl, hg⟩
              · obtain rfl : k = s.size := by omega
                clear hc kout
                cases f
                · go_wp2_with fail
                  go_ret
                  exact ⟨rfl, hg⟩
                · go_wp2_with fail
                  go_ret
                  exact ⟨rfl, hg⟩
  · go_enter Try.func5, Try.ntmps5
    go_wp2_with (go_at_call 14; refine (bytes14 s p f c _ hs).mono ?_; rintro e w' ⟨rfl, rfl⟩)
    go_ret
    exact ⟨rfl, Grown.refl _⟩

end Go.Proofs.Qxb6603247a
