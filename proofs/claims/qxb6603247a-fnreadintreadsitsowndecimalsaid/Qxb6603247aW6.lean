import Derived.Test.Qxb6603247aP1
import Derived.Deep.DeepCutAuto
import Derived.Deep.CutBlock
namespace Go.Proofs.Qxb6603247a
open Go.RowKit

/-- 'next', with her answer as a letter. -/
def Took2 (s : ByteArray) (f : Bool) (c : Int) (k a : Nat) (t : Bool) : Prop :=
  (t = true → f = false ∧ k < s.size ∧ byt s k = c ∧ a = k + 1) ∧ (t = false → a = k ∧ (f = true ∨ k = s.size ∨ byt s k ≠ c))

theorem Took2.hi {s : ByteArray} {f : Bool} {c : Int} {k a : Nat} {t : Bool} (h : Took2 s f c k a t) (hk : k ≤ s.size) : a ≤ s.size := by
  cases t
  · have := (h.2 rfl).1; omega
  · obtain ⟨_, h1, _, h2⟩ := h.1 rfl; omega

theorem next2_any (s : ByteArray) (p : Nat) (f : Bool) (c : Int) (b : Nat) (w : World) (hs : s.size ≤ maxLen) (hp : p ≤ s.size) (h : Rdr w b s p f) :
    Calls Try.prog 24 #[.pointer (some ⟨b, 0, none⟩), .int .u8 c] w fun e w' => ∃ (k a : Nat) (t : Bool), e = .returned (.bool t) ∧ Stop wht s p k ∧ Keeps b w w' ∧ Rdr w' b s a f ∧ Took2 s f c k a t := by
  refine (next_any s p f c b w hs hp h).mono ?_
  rintro e w' ⟨k, hst, hk, ⟨rfl, hf, hlt, hc, hr⟩ | ⟨rfl, hc, hr⟩⟩
  · exact ⟨k, k + 1, true, rfl, hst, hk, hr, fun _ => ⟨hf, hlt, hc, rfl⟩, fun h => absurd h (by simp)⟩
  · exact ⟨k, k, false, rfl, hst, hk, hr, fun h => absurd h (by simp), fun _ => ⟨rfl, hc⟩⟩

theorem wrap_u64 (x : Int) : IntKind.u64.wrap x = wu x := by
  simp [IntKind.wrap, wu, IntKind.bits, IntKind.signed]

theorem u64_round {s : ByteArray} {a j : Nat} (h : a ≤ j) {c : Int} (hc : byt s j = c) :
    Value.int IntKind.u64 (IntKind.u64.wrap (IntKind.u64.wrap (wu (num s a (j - a)) * 10) + (c - 48))) = Value.int IntKind.u64 (wu (num s a (j + 1 - a))) := by
  rw [wrap_u64, wrap_u64, show j + 1 - a = (j - a) + 1 from by omega, num_succ, show a + (j - a) = j from by omega, hc, u64_step]

/-- What ReadInt answers, and how it leaves the reader. -/
def Read (s : ByteArray) (f t : Bool) (a j b : Nat) (e : Ending) (w' : World) : Prop :=
  (Acc s f t a j ∧ e = .returned (.int .i64 (sgn t (num s a (j - a)))) ∧ Rdr w' b s j false) ∨
  (¬ Acc s f t a j ∧ e = .returned (.int .i64 0) ∧ Rdr w' b s j true)

theorem ret_int {k : IntKind} {a b : Int} (h : a = b) : Ending.returned (.int k a) = .returned (.int k b) := by rw [h]

def ReadPost (s : ByteArray) (p : Nat) (f : Bool) (b : Nat) (w : World) (e : Ending) (w' : World) : Prop :=
  ∃ (k a j : Nat) (t : Bool), Stop wht s p k ∧ Took2 s f 45 k a t ∧ Stop dig s a j ∧ Keeps b w w' ∧ Read s f t a j b e w'

theorem post_rej {s : ByteArray} {p : Nat} {f : Bool} {b : Nat} {w wc : World} {k a j : Nat} {t : Bool} (h1 : Stop wht s p k) (h2 : Took2 s f 45 k a t) (h3 : Stop dig s a j) (h4 : Keeps b w wc) (h5 : Rdr wc b s j f) (h6 : ¬ Acc s f t a j) :
    ReadPost s p f b w (.returned (.int .i64 0)) (wc.setCell ⟨b, 2, none⟩ (.bool true)) :=
  ⟨k, a, j, t, h1, h2, h3, h4.trans (Keeps.setCell b 2 _ _), Or.inr ⟨h6, rfl, h5.setFailed true⟩⟩

theorem post_ok {s : ByteArray} {p : Nat} {b : Nat} {w wc : World} {k a j : Nat} {t : Bool} (h1 : Stop wht s p k) (h2 : Took2 s false 45 k a t) (h3 : Stop dig s a j) (h4 : Keeps b w wc) (h5 : Rdr wc b s j false) (h6 : Acc s false t a j) {x : Int} (h7 : x = sgn t (num s a (j - a))) :
    ReadPost s p false b w (.returned (.int .i64 x)) wc :=
  ⟨k, a, j, t, h1, h2, h3, h4, Or.inl ⟨h6, ret_int h7, h5⟩⟩

theorem ok_pos {s : ByteArray} {a j : Nat} (hs : Stop dig s a j) {N : Int} (hN : N = wu (num s a (j - a))) (h6 : Acc s false false a j) : wrap64 N = sgn false (num s a (j - a)) := by
  obtain ⟨h1, h2⟩ := num_of_wu hs h6.2.2.1 hN
  have h3 := h6.2.2.2.2
  rw [← h1] at h3 ⊢
  simp only [lim, sgn, Bool.false_eq_true, if_false] at h3 ⊢
  unfold wrap64
  omega

theorem ok_neg {s : ByteArray} {a j : Nat} (hs : Stop dig s a j) {N : Int} (hN : N = wu (num s a (j - a))) (h6 : Acc s false true a j) : wrap64 (-(wrap64 N)) = sgn true (num s a (j - a)) := by
  obtain ⟨h1, h2⟩ := num_of_wu hs h6.2.2.1 hN
  have h3 := h6.2.2.2.2
  rw [← h1] at h3 ⊢
  simp only [lim, sgn, if_true] at h3 ⊢
  unfold wrap64
  omega

set_option maxHeartbeats 2000000 in
theorem readInt_any (s : ByteArray) (p : Nat) (f : Bool) (b : Nat) (w : World) (hs : s.size ≤ maxLen) (hp : p ≤ s.size) (h : Rdr w b s p f) :
    Calls Try.prog 17 #[.pointer (some ⟨b, 0, none⟩)] w fun e w' => ReadPost s p f b w e w' := by
  have hs' : s.size ≤ 9223372036854775807 := by unfold maxLen at hs; omega
  go_enter Try.func17, Try.ntmps17
  go_wp2_with fail
  refine (space_any s p f b _ hs hp h).mono ?_
  rintro e w1 ⟨rfl, k, hst, hr, hk⟩
  go_wp2_with fail
  refine (next2_any s k f 45 b _ hs hst.hi hr).mono ?_
  rintro e w2 ⟨k', a, t, rfl, hst', hk', hr', htk⟩
  have hkk : k' = k := stop_again hst hst'
  subst hkk
  have ha : a ≤ s.size := htk.hi hst.hi
  have hkeep : Keeps b w w2 := hk.trans hk'
  have HT : Hid (Took2 s f 45 k' a t) := htk
  have HR : Hid (Rdr w2 b s a f) := hr'
  clear hst' hk hk' hr htk
  obtain ⟨h0, h1, h2, z1, z2⟩ := hr'
  go_upto_block 0 with fail
  go_cut [5] (fun n wr => ∃ j : Nat, Stop dig s a j ∧ n = .int .u64 (wu (num s a (j - a))) ∧ Rdr wr b s j f ∧ Keeps b w wr)
  case first =>
    go_wp2_with fail
    go_loopg [5] (s.size - a) (fun g n wr => ∃ j : Nat, a ≤ j ∧ j ≤ s.size ∧ g = s.size - j ∧ (∀ i, a ≤ i → i < j → dig (byt s i) = true) ∧ n = .int .u64 (wu (num s a (j - a))) ∧ Rdr wr b s j f ∧ Keeps b w wr)
    case atStart => exact ⟨a, Nat.le_refl _, ha, rfl, fun i h1 h2 => absurd h2 (by omega), by rw [Nat.sub_self]; rfl, HR.out, hkeep⟩
    case round =>
      clear h0 h1 h2 z1 z2 hkeep
      obtain ⟨j, j1, j2, hg, hall, rfl, hr, hkeep⟩ := hrel
      have HR : Hid (Rdr wr b s j f) := hr
      obtain ⟨h0, h1, h2, z1, z2⟩ := hr
      by_cases hlt : j < s.size
      · have HB : Hid (byt s j = (s[j].toNat : Int)) := byt_at s j hlt
        by_cases e1 : 48 ≤ (s[j].toNat : Int)
        · by_cases e2 : (s[j].toNat : Int) ≤ 57
          · go_wp2
            go_quiet (fail)
            go_wp2
            go_quiet (fail)
            go_wp2
            go_roundg (s.size - (j + 1))
            case measure => omega
            case rel => exact ⟨j + 1, by omega, by omega, rfl, all_step hall (by rw [HB.out]; exact (dig_iff _).2 ⟨e1, e2⟩), u64_round j1 HB.out, HR.out.step _, hkeep.trans (Keeps.step _ _ _ _)⟩
          · have e2' : decide ((s[j].toNat : Int) ≤ 57) = false := by simpa using e2
            clear e2
            go_wp2
            go_quiet (fail)
            go_wp2
            go_meet
            case rel => exact ⟨j, ⟨j1, j2, hall, fun _ => by rw [HB.out]; unfold dig; rw [e2']; simp⟩, rfl, HR.out.drewN _, hkeep.trans (Keeps.drewN _ _ _)⟩
        · have e1' : decide (48 ≤ (s[j].toNat : Int)) = false := by simpa using e1
          clear e1
          go_wp2
          go_quiet (fail)
          go_wp2
          go_meet
          case rel => exact ⟨j, ⟨j1, j2, hall, fun _ => by rw [HB.out]; unfold dig; rw [e1']; simp⟩, rfl, HR.out.drewN _, hkeep.trans (Keeps.drewN _ _ _)⟩
      · have hd : decide (j < s.size) = false := by simpa using hlt
        go_wp2
        go_quiet (fail)
        go_wp2
        go_meet
        case rel => exact ⟨j, ⟨j1, j2, hall, fun h => absurd h hlt⟩, rfl, HR.out.drewN _, hkeep.trans (Keeps.drewN _ _ _)⟩
  case rest =>
    clear h0 h1 h2 z1 z2 hkeep HR
    obtain ⟨j, hsj, rfl, hr, hkeep⟩ := hcut
    obtain ⟨N, hN⟩ : ∃ N : Int, N = wu (num s a (j - a)) := ⟨_, rfl⟩
    rw [← hN]
    have HN : Hid (N = wu (num s a (j - a))) := hN
    clear hN
    have HR : Hid (Rdr wc b s j f) := hr
    obtain ⟨h0, h1, h2, z1, z2⟩ := hr
    have j1 := hsj.lo
    have j2 := hsj.hi
    cases t
    · cases f
      · skip
        by_cases hd : j = a
        · have hz : ((j : Int) - (a : Int) == 0) = true := by simp; omega
          go_wp2
          go_ret
          exact post_rej hst HT.out hsj hkeep HR.out (not_acc_none hd)
        · have hz : ((j : Int) - (a : Int) == 0) = false := by simp; omega
          by_cases hd2 : 19 < (j : Int) - (a : Int)
          · have hd2' := hd2
            go_wp2
            go_ret
            exact post_rej hst HT.out hsj hkeep HR.out (not_acc_long hd2')
          · have hlt : a < s.size := by omega
            have hd2 : (j : Int) - (a : Int) ≤ 19 := by omega
            by_cases hd3 : 1 < (j : Int) - (a : Int)
            · cases hc : ((s[a].toNat : Int) == 48)
              · by_cases hn : 9223372036854775807 < N
                · have hn' : lim false < N := hn
                  go_wp2
                  go_ret
                  exact post_rej hst HT.out hsj hkeep HR.out (not_acc_great hsj HN.out hd2 hn')
                · have hn' : N ≤ lim false := Int.not_lt.1 hn
                  go_wp2
                  go_ret
                  exact post_ok hst HT.out hsj hkeep HR.out (acc_many hsj HN.out hd3 hd2 hlt hc hn') (ok_pos hsj HN.out (acc_many hsj HN.out hd3 hd2 hlt hc hn'))
              · skip
                go_wp2
                go_ret
                exact post_rej hst HT.out hsj hkeep HR.out (not_acc_zero hd3 hlt hc)
            · have hd3 : (j : Int) - (a : Int) ≤ 1 := by omega
              by_cases hn : 9223372036854775807 < N
              · have hn' : lim false < N := hn
                go_wp2
                go_ret
                exact post_rej hst HT.out hsj hkeep HR.out (not_acc_great hsj HN.out hd2 hn')
              · have hn' : N ≤ lim false := Int.not_lt.1 hn
                go_wp2
                go_ret
                exact post_ok hst HT.out hsj hkeep HR.out (acc_one hsj HN.out hd hd3 hn') (ok_pos hsj HN.out (acc_one hsj HN.out hd hd3 hn'))
      · go_wp2
        go_ret
        exact post_rej hst HT.out hsj hkeep HR.out (not_acc_failed)
    · obtain rfl : f = false := (HT.out.1 rfl).1
      by_cases hd : j = a
      · have hz : ((j : Int) - (a : Int) == 0) = true := by simp; omega
        go_wp2
        go_ret
        exact post_rej hst HT.out hsj hkeep HR.out (not_acc_none hd)
      · have hz : ((j : Int) - (a : Int) == 0) = false := by simp; omega
        by_cases hd2 : 19 < (j : Int) - (a : Int)
        · have hd2' := hd2
          go_wp2
          go_ret
          exact post_rej hst HT.out hsj hkeep HR.out (not_acc_long hd2')
        · have hlt : a < s.size := by omega
          have hd2 : (j : Int) - (a : Int) ≤ 19 := by omega
          by_cases hd3 : 1 < (j : Int) - (a : Int)
          · cases hc : ((s[a].toNat : Int) == 48)
            · by_cases hn : 9223372036854775808 < N
              · have hn' : lim true < N := hn
                go_wp2
                go_ret
                exact post_rej hst HT.out hsj hkeep HR.out (not_acc_great hsj HN.out hd2 hn')
              · have hn' : N ≤ lim true := Int.not_lt.1 hn
                go_wp2
                go_ret
                exact post_ok hst HT.out hsj hkeep HR.out (acc_many hsj HN.out hd3 hd2 hlt hc hn') (ok_neg hsj HN.out (acc_many hsj HN.out hd3 hd2 hlt hc hn'))
            · skip
              go_wp2
              go_ret
              exact post_rej hst HT.out hsj hkeep HR.out (not_acc_zero hd3 hlt hc)
          · have hd3 : (j : Int) - (a : Int) ≤ 1 := by omega
            by_cases hn : 9223372036854775808 < N
            · have hn' : lim true < N := hn
              go_wp2
              go_ret
              exact post_rej hst HT.out hsj hkeep HR.out (not_acc_great hsj HN.out hd2 hn')
            · have hn' : N ≤ lim true := Int.not_lt.1 hn
              go_wp2
              go_ret
              exact post_ok hst HT.out hsj hkeep HR.out (acc_one hsj HN.out hd hd3 hn') (ok_neg hsj HN.out (acc_one hsj HN.out hd hd3 hn'))

end Go.Proofs.Qxb6603247a
