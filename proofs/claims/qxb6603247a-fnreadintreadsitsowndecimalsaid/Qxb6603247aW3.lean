import Derived.Test.Qxb6603247aW2
namespace Go.Proofs.Qxb6603247a
open Go.RowKit

set_option maxHeartbeats 400000 in
theorem zzspace_any (s : ByteArray) (p : Nat) (f : Bool) (b : Nat) (w : World) (hs : s.size ≤ maxLen) (hp : p ≤ s.size) (h : Rdr w b s p f) :
    Calls Try.prog 10 #[.pointer (some ⟨b, 0, none⟩)] w fun e w' => e = .returned (.tuple #[]) ∧ ∃ k : Nat, Stop wht s p k ∧ Rdr w' b s k f ∧ Keeps b w w' := by
  go_enter Try.func10, Try.ntmps10
  go_wp2_with (go_at_call 23; refine (space_any s p f b _ hs hp h).mono ?_; rintro e w' ⟨rfl, k, h1, h2, h3⟩)
  go_end0
  exact ⟨rfl, k, h1, h2, h3⟩

theorem rdr_new (w : World) (s : ByteArray) (p : Int) (f : Bool) : Rdr (w.alloc (.cells #[.string s, .int .i64 p, .bool f] 38)) w.heap.size s p f := by
  refine ⟨?_, ?_, ?_, ?_, ?_⟩ <;> simp [go_sem]

theorem grown_new (w : World) (s : ByteArray) (p : Int) (f : Bool) : Grown w (w.alloc (.cells #[.string s, .int .i64 p, .bool f] 38)) := (Grown.refl w).alloc _ _

set_option maxHeartbeats 1000000 in
theorem walk3 (s : ByteArray) (p : Int) (f : Bool) (hs : s.size ≤ maxLen) (w : World) :
    Calls Try.prog 3 #[.string s, .int .i64 p, .bool f] w fun e w' => e = .returned (.bool true) ∧ Grown w w' := by
  have hs' : s.size ≤ 9223372036854775807 := by unfold maxLen at hs; omega
  by_cases hz : s.size ≤ 1048576
  · by_cases hp0 : p < 0
    · go_enter Try.func3, Try.ntmps3
      go_wp2_with (go_at_call 8; refine (bytes8 s p f _ hs).mono ?_; rintro e w' ⟨rfl, rfl⟩)
      go_ret
      exact ⟨rfl, Grown.refl _⟩
    · by_cases hp1 : (s.size : Int) < p
      · go_enter Try.func3, Try.ntmps3
        go_wp2_with (go_at_call 8; refine (bytes8 s p f _ hs).mono ?_; rintro e w' ⟨rfl, rfl⟩)
        go_ret
        exact ⟨rfl, Grown.refl _⟩
      · obtain ⟨q, rfl⟩ : ∃ q : Nat, p = (q : Int) := ⟨p.toNat, by omega⟩
        have hq : q ≤ s.size := by omega
        clear hp0 hp1
        go_enter Try.func3, Try.ntmps3
        go_wp2_with (go_at_call 8; refine (bytes8 s q f _ hs).mono ?_; rintro e w' ⟨rfl, rfl⟩)
        refine (newReader s q f _).mono ?_
        rintro e w1 ⟨rfl, rfl⟩
        go_wp2_with fail
        refine (zzspace_any s q f w.heap.size _ hs hq (rdr_new _ _ _ _)).mono ?_
        rintro e w2 ⟨rfl, k, hst, hr, hk⟩
        have hg : Grown w w2 := hk w (Nat.le_refl _) (grown_new _ _ _ _)
        clear hk
        go_wp2_with fail
        refine (state_any s k f w.heap.size _ hr).mono ?_
        rintro e w3 ⟨rfl, n, rfl⟩
        have hg : Grown w (w2.drewN n) := hg
        obtain ⟨k1, k2, kall, kout⟩ := hst
        have d1 : decide (k < q) = false := by simp; omega
        have d2 : decide (s.size < k) = false := by simp; omega
        go_wp2_with fail
        go_loopg [11] (k - q) (fun g i wr => ∃ j : Nat, q ≤ j ∧ j ≤ k ∧ g = k - j ∧ i = .int .i64 j ∧ Grown w wr)
        case atStart => exact ⟨q, Nat.le_refl _, k1, rfl, rfl, hg⟩
        case round =>
          obtain ⟨j, j1, j2, hgk, rfl, hg⟩ := hrel
          by_cases hlt : j < k
          · have hw : wht (s[j].toNat : Int) = true := by rw [← byt_at]; exact kall j j1 hlt
            go_wp2_with (go_at_call 12; refine (isWhite_any _ _).mono ?_; rintro e w' ⟨rfl, rfl⟩)
            go_roundg (k - (j + 1))
            case measure => omega
            case rel => exact ⟨j + 1, by omega, by omega, rfl, by go_num, hg⟩
          · by_cases hke : k < s.size
            · have hw : wht (s[k].toNat : Int) = false := by rw [← byt_at]; exact kout hke
              go_wp2_with (go_at_call 12; refine (isWhite_any _ _).mono ?_; rintro e w' ⟨rfl, rfl⟩)
              go_ret
              exact ⟨rfl, hg⟩
            · have hke' : k = s.size := by omega
              subst hke'
              go_wp2_with fail
              go_ret
              exact ⟨rfl, hg⟩
  · go_enter Try.func3, Try.ntmps3
    go_wp2_with (go_at_call 8; refine (bytes8 s p f _ hs).mono ?_; rintro e w' ⟨rfl, rfl⟩)
    go_ret
    exact ⟨rfl, Grown.refl _⟩

end Go.Proofs.Qxb6603247a
