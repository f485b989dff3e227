import Derived.Test.Qxb6603356aP2
import Derived.BigQuiet
import Derived.Deep.LoopGhost
import Derived.Deep.DeepCutAuto
import Derived.Deep.CutBlock
import Derived.WalkSpells
namespace Go.Proofs.Qxb6603356a
open Go.RowKit

theorem ret_int {k : IntKind} {a b : Int} (h : a = b) : Ending.returned (.int k a) = .returned (.int k b) := by rw [h]

set_option maxRecDepth 100000 in
set_option maxHeartbeats 1000000 in
theorem phCount_any (s : ByteArray) (n : Int) (w : World) (hs : s.size ≤ 1048576) :
    Calls Try.prog 13 #[.string s, .int .i64 n] w fun e w' => e = .returned (.int .i64 (cntL n s.data.toList : Nat)) ∧ w = w' := by
  go_enter Try.func13, Try.ntmps13
  go_wp2_with fail
  go_loopg [5, 6] s.size (fun g x i wr => ∃ k c : Nat, k ≤ s.size ∧ c ≤ k ∧ g = s.size - k ∧ i = .int .i64 k ∧ x = .int .i64 c ∧ c + cntL n (s.data.toList.drop k) = cntL n s.data.toList ∧ w = wr)
  case atStart => exact ⟨0, 0, by omega, by omega, rfl, rfl, rfl, by simp, rfl⟩
  case round =>
    obtain ⟨k, c, hk, hck, hg, rfl, rfl, hc, rfl⟩ := hrel
    have HC : Hid (c + cntL n (s.data.toList.drop k) = cntL n s.data.toList) := hc
    clear hc
    by_cases hlt : k < s.size
    · have HB : Hid (byt s k = (s[k].toNat : Int)) := byt_at s k hlt
      cases h36 : ((s[k].toNat : Int) != 36)
      · have e36 : Hid (byt s k = 36) := by unfold Hid; rw [HB.out]; simpa using h36
        go_upto_block 2 with fail
        go_cut [7] (fun r wr => ∃ j : Nat, Stop dig s (k + 1) j ∧ r = .int .i64 j ∧ w = wr)
        case first =>
          go_wp2_with fail
          go_loopg [7] (s.size - (k + 1)) (fun g r wr => ∃ j : Nat, k + 1 ≤ j ∧ j ≤ s.size ∧ g = s.size - j ∧ r = .int .i64 j ∧ (∀ i, k + 1 ≤ i → i < j → dig (byt s i) = true) ∧ w = wr)
          case atStart => exact ⟨k + 1, Nat.le_refl _, by omega, rfl, by go_num, fun i h1 h2 => absurd h2 (by omega), rfl⟩
          case round =>
            obtain ⟨j, j1, j2, hg2, rfl, hall, rfl⟩ := hrel
            by_cases hj : j < s.size
            · have HJ : Hid (byt s j = (s[j].toNat : Int)) := byt_at s j hj
              by_cases e1 : 48 ≤ (s[j].toNat : Int)
              · by_cases e2 : (s[j].toNat : Int) ≤ 57
                · go_wp2_with fail
                  go_roundg (s.size - (j + 1))
                  case measure => omega
                  case rel => exact ⟨j + 1, by omega, by omega, rfl, by go_num, all_step hall (by rw [HJ.out]; exact (dig_iff _).2 ⟨e1, e2⟩), rfl⟩
                · have e2' : decide ((s[j].toNat : Int) ≤ 57) = false := by simpa using e2
                  clear e2
                  go_wp2_with fail
                  go_meet
                  case rel => exact ⟨j, ⟨j1, j2, hall, fun _ => by rw [HJ.out]; unfold dig; rw [e2']; simp⟩, rfl, rfl⟩
              · have e1' : decide (48 ≤ (s[j].toNat : Int)) = false := by simpa using e1
                clear e1
                go_wp2_with fail
                go_meet
                case rel => exact ⟨j, ⟨j1, j2, hall, fun _ => by rw [HJ.out]; unfold dig; rw [e1']; simp⟩, rfl, rfl⟩
            · have hd : decide (j < s.size) = false := by simpa using hj
              go_wp2_with fail
              go_meet
              case rel => exact ⟨j, ⟨j1, j2, hall, fun h => absurd h hj⟩, rfl, rfl⟩
        case rest =>
          obtain ⟨j, hst, rfl, rfl⟩ := hcut
          have HST : Hid (Stop dig s (k + 1) j) := hst
          have j2 := hst.hi
          have j1 := hst.lo
          clear hst
          by_cases hj : j = k + 2
          · have hk1 : k + 1 < s.size := by omega
            have HB1 : Hid (byt s (k + 1) = (s[k + 1].toNat : Int)) := byt_at s (k + 1) hk1
            have hdg := (dig_iff _).1 (HST.out.all (k + 1) (by omega) (by omega))
            rw [HB1.out] at hdg
            obtain ⟨g1, g2⟩ := hdg
            have hje : ((j : Int) == (k : Int) + 2) = true := by simp; omega
            have HJE : Hid (j = k + 2) := hj
            clear hj
            cases hn : ((s[k + 1].toNat : Int) - 48 == n)
            · go_wp2_with fail
              go_roundg (s.size - (k + 1))
              case measure => omega
              case rel => exact ⟨k + 1, c, by omega, by omega, rfl, by go_num, rfl, by rw [← cnt_miss hlt (fun x => by have x4 := x.2.2.2; rw [HB1.out] at x4; simp [x4] at hn)]; exact HC.out, rfl⟩
            · go_wp2_with fail
              go_roundg (s.size - (k + 1))
              case measure => omega
              case rel => exact ⟨k + 1, c + 1, by omega, by omega, rfl, by go_num, by go_num, by have e := HC.out; rw [cnt_hit hlt e36.out HST.out HJE.out (by rw [HB1.out]; simpa using hn)] at e; omega, rfl⟩
          · have hje : ((j : Int) == (k : Int) + 2) = false := by simp; omega
            go_wp2_with fail
            go_roundg (s.size - (k + 1))
            case measure => omega
            case rel => exact ⟨k + 1, c, by omega, by omega, rfl, by go_num, rfl, by rw [← cnt_miss1 hlt HST.out hj]; exact HC.out, rfl⟩
      · go_wp2_with fail
        go_roundg (s.size - (k + 1))
        case measure => omega
        case rel => exact ⟨k + 1, c, by omega, by omega, rfl, by go_num, rfl, by rw [← cnt_miss hlt (fun x => by rw [HB.out] at x; simp [x.1] at h36)]; exact HC.out, rfl⟩
    · go_wp2_with fail
      go_ret
      have e := HC.out
      rw [drop_end s k (by omega)] at e
      exact ⟨ret_int (by have : c + 0 = cntL n s.data.toList := e; omega), rfl⟩

end Go.Proofs.Qxb6603356a
