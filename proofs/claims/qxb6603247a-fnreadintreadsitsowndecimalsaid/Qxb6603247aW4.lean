import Derived.Test.Qxb6603247aW3
namespace Go.Proofs.Qxb6603247a
open Go.RowKit

/-- What 'next' answers, and where it leaves the reader. -/
def Took (s : ByteArray) (f : Bool) (c : Int) (b k : Nat) (e : Ending) (w' : World) : Prop :=
  (e = .returned (.bool true) ∧ f = false ∧ k < s.size ∧ byt s k = c ∧ Rdr w' b s ((k + 1 : Nat) : Int) f) ∨
  (e = .returned (.bool false) ∧ (f = true ∨ k = s.size ∨ byt s k ≠ c) ∧ Rdr w' b s k f)

set_option maxHeartbeats 1000000 in
theorem next_any (s : ByteArray) (p : Nat) (f : Bool) (c : Int) (b : Nat) (w : World) (hs : s.size ≤ maxLen) (hp : p ≤ s.size) (h : Rdr w b s p f) :
    Calls Try.prog 24 #[.pointer (some ⟨b, 0, none⟩), .int .u8 c] w fun e w' => ∃ k : Nat, Stop wht s p k ∧ Keeps b w w' ∧ Took s f c b k e w' := by
  have hs' : s.size ≤ 9223372036854775807 := by unfold maxLen at hs; omega
  go_enter Try.func24, Try.ntmps24
  go_wp2_with fail
  refine (space_any s p f b _ hs hp h).mono ?_
  rintro e w1 ⟨rfl, k, hst, hr, hk⟩
  have HR : Hid (Rdr w1 b s k f) := hr
  obtain ⟨h0, h1, h2, z1, z2⟩ := hr
  have hk2 : k ≤ s.size := hst.hi
  cases f
  · by_cases hlt : k < s.size
    · have hne : ((k : Int) == (s.size : Int)) = false := by simp; omega
      have HB : Hid (byt s k = (s[k].toNat : Int)) := byt_at s k hlt
      cases hc : ((s[k].toNat : Int) != c)
      · go_wp2
        go_quiet (fail)
        go_wp2
        go_ret
        exact ⟨k, hst, hk.trans (Keeps.step _ _ _ _), Or.inl ⟨rfl, rfl, hlt, by rw [HB.out]; simpa using hc, HR.out.step _⟩⟩
      · go_wp2
        go_quiet (fail)
        go_wp2
        go_ret
        exact ⟨k, hst, hk.trans (Keeps.drewN _ _ _), Or.inr ⟨rfl, Or.inr (Or.inr (by rw [HB.out]; simpa using hc)), HR.out.drewN _⟩⟩
    · obtain rfl : k = s.size := by omega
      go_wp2
      go_quiet (fail)
      go_wp2
      go_ret
      exact ⟨_, hst, hk.trans (Keeps.drewN _ _ _), Or.inr ⟨rfl, Or.inr (Or.inl rfl), HR.out.drewN _⟩⟩
  · go_wp2
    go_quiet (fail)
    go_wp2
    go_ret
    exact ⟨_, hst, hk.trans (Keeps.drewN _ _ _), Or.inr ⟨rfl, Or.inl rfl, HR.out.drewN _⟩⟩

set_option maxHeartbeats 400000 in
theorem zznext_any (s : ByteArray) (p : Nat) (f : Bool) (c : Int) (b : Nat) (w : World) (hs : s.size ≤ maxLen) (hp : p ≤ s.size) (h : Rdr w b s p f) :
    Calls Try.prog 15 #[.pointer (some ⟨b, 0, none⟩), .int .u8 c] w fun e w' => ∃ k : Nat, Stop wht s p k ∧ Keeps b w w' ∧ Took s f c b k e w' := by
  go_enter Try.func15, Try.ntmps15
  go_wp2_with fail
  refine (next_any s p f c b _ hs hp h).mono ?_
  rintro e w1 ⟨k, hst, hk, ⟨rfl, h1⟩ | ⟨rfl, h1⟩⟩
  · go_wp2
    go_ret
    exact ⟨k, hst, hk, Or.inl ⟨rfl, h1⟩⟩
  · go_wp2
    go_ret
    exact ⟨k, hst, hk, Or.inr ⟨rfl, h1⟩⟩

set_option maxHeartbeats 400000 in
theorem bytes14 (s : ByteArray) (p : Int) (f : Bool) (c : Int) (w : World) (h : s.size ≤ maxLen) :
    Calls Try.prog 14 #[.string s, .int .i64 p, .bool f, .int .u8 c] w fun e w' => e = .returned (.bool (decide (s.size ≤ 1048576))) ∧ w = w' := by
  unfold maxLen at h
  by_cases h1 : s.size ≤ 1048576
  all_goals
    go_enter Try.func14, Try.ntmps14
    go_wp2
    go_ret
    exact ⟨by simp [*], rfl⟩

end Go.Proofs.Qxb6603247a
