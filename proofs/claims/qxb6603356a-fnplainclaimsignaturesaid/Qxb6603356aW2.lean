import Derived.Test.Qxb6603356aW1
namespace Go.Proofs.Qxb6603356a
open Go.RowKit

theorem ret_str {a b : ByteArray} (h : a.data.toList = b.data.toList) : Ending.returned (.string a) = .returned (.string b) := by
  have : a = b := ByteArray.ext (Array.ext' h)
  rw [this]

/-- The text of a list of bytes. -/
def txt (l : List UInt8) : ByteArray := ⟨l.toArray⟩

theorem txt_list (l : List UInt8) : (txt l).data.toList = l := by simp [txt]

theorem seq_cap (s : ByteArray) (hs : s.size ≤ 1048576) : (seqL s.data.toList).length ≤ 1099513724928 := by
  have h1 := seq_len s.data.toList
  have h2 : s.data.toList.length = s.size := by simp
  rw [h2] at h1
  have h3 : s.size * (s.size + 2) ≤ 1048576 * (1048576 + 2) := Nat.mul_le_mul hs (by omega)
  omega

theorem app_list (a b : ByteArray) : (a ++ b).data.toList = a.data.toList ++ b.data.toList := by
  rw [ByteArray.data_append, Array.toList_append]

theorem size_list (a : ByteArray) : a.data.toList.length = a.size := by simp

theorem seq_round {s O : ByteArray} {k j : Nat} (h : k < s.size) (h36 : byt s k = 36) (hst : Stop dig s (k + 1) j) (hy : k + 1 < j ∧ ¬ (j = k + 2 ∧ byt s (k + 1) ≠ 48)) (hc : O.data.toList ++ seqL (s.data.toList.drop k) = seqL s.data.toList) :
    (O ++ s.extract k j ++ ⟨#[59]⟩).data.toList ++ seqL (s.data.toList.drop (k + 1)) = seqL s.data.toList := by
  rw [seq_take h h36 hst hy] at hc
  rw [← hc, app_list, app_list]
  simp

theorem seq_fit {s Q : ByteArray} {k : Nat} (hs : s.size ≤ 1048576) (hc : Q.data.toList ++ seqL (s.data.toList.drop k) = seqL s.data.toList) : Q.size ≤ 1099513724928 := by
  have h1 := congrArg List.length hc
  rw [List.length_append, size_list] at h1
  have := seq_cap s hs
  omega

set_option maxRecDepth 100000 in
set_option maxHeartbeats 1000000 in
theorem phSeq_any (s : ByteArray) (w : World) (hs : s.size ≤ 1048576) :
    Calls Try.prog 14 #[.string s] w fun e w' => e = .returned (.string (txt (seqL s.data.toList))) ∧ w = w' := by
  have hcap := seq_cap s hs
  go_enter Try.func14, Try.ntmps14
  go_wp2_with fail
  go_loopg [3, 4] s.size (fun g x i wr => ∃ (k : Nat) (O : ByteArray), k ≤ s.size ∧ O.size ≤ 1099513724928 ∧ g = s.size - k ∧ i = .int .i64 k ∧ x = .string O ∧ O.data.toList ++ seqL (s.data.toList.drop k) = seqL s.data.toList ∧ w = wr)
  case atStart => exact ⟨0, ⟨#[]⟩, by omega, by decide, rfl, rfl, rfl, by simp, rfl⟩
  case round =>
    obtain ⟨k, O, hk, hO, hg, rfl, rfl, hc, rfl⟩ := hrel
    have HC : Hid (O.data.toList ++ seqL (s.data.toList.drop k) = seqL s.data.toList) := hc
    clear hc
    by_cases hlt : k < s.size
    · have HB : Hid (byt s k = (s[k].toNat : Int)) := byt_at s k hlt
      cases h36 : ((s[k].toNat : Int) != 36)
      · have e36 : Hid (byt s k = 36) := by unfold Hid; rw [HB.out]; simpa using h36
        go_upto_block 2 with fail
        go_cut [5] (fun r wr => ∃ j : Nat, Stop dig s (k + 1) j ∧ r = .int .i64 j ∧ w = wr)
        case first =>
          go_wp2_with fail
          go_loopg [5] (s.size - (k + 1)) (fun g r wr => ∃ j : Nat, k + 1 ≤ j ∧ j ≤ s.size ∧ g = s.size - j ∧ r = .int .i64 j ∧ (∀ i, k + 1 ≤ i → i < j → dig (byt s i) = true) ∧ w = wr)
          case atStart => exact ⟨k + 1, Nat.le_refl _, by omega, rfl, by go_num, fun i h1 h2 => absurd h2 (by omega), rfl⟩
          case round =>
            obtain ⟨j, j1, j2, hg2, rfl, hall, rfl⟩ := hrel
            by_cases hj : j < s.size
            · have HJ : Hid (byt s j = (s[j].toNat : Int)) := byt_at s j hj
              by_cases e1 : 48 ≤ (s[j].toNat : Int)
              · by_cases e2 : (s[j].toNat : Int) ≤ 57
                · go_wp2_with fail
                  go_roundg (s.size - (j + 1))
                  case measure => omega
                  case rel => exact ⟨j + 1, by omega, by omega, rfl, by go_num, all_step hall (by rw [HJ.out]; exact (dig_iff _).2 ⟨e1, e2⟩), rfl⟩
                · have e2' : decide ((s[j].toNat : Int) ≤ 57) = false := by simpa using e2
                  clear e2
                  go_wp2_with fail
                  go_meet
                  case rel => exact ⟨j, ⟨j1, j2, hall, fun _ => by rw [HJ.out]; unfold dig; rw [e2']; simp⟩, rfl, rfl⟩
              · have e1' : decide (48 ≤ (s[j].toNat : Int)) = false := by simpa using e1
                clear e1
                go_wp2_with fail
                go_meet
                case rel => exact ⟨j, ⟨j1, j2, hall, fun _ => by rw [HJ.out]; unfold dig; rw [e1']; simp⟩, rfl, rfl⟩
            · have hd : decide (j < s.size) = false := by simpa using hj
              go_wp2_with fail
              go_meet
              case rel => exact ⟨j, ⟨j1, j2, hall, fun h => absurd h hj⟩, rfl, rfl⟩
        case rest =>
          obtain ⟨j, hst, rfl, rfl⟩ := hcut
          have HST : Hid (Stop dig s (k + 1) j) := hst
          have j2 := hst.hi
          have j1 := hst.lo
          clear hst
          by_cases hj : k + 1 < j
          · have hk1 : k + 1 < s.size := by omega
            have HB1 : Hid (byt s (k + 1) = (s[k + 1].toNat : Int)) := byt_at s (k + 1) hk1
            by_cases hj2 : j = k + 2
            · have hje : ((j : Int) == (k : Int) + 2) = true := by simp; omega
              have HJE : Hid (j = k + 2) := hj2
              clear hj2
              cases h48 : ((s[k + 1].toNat : Int) != 48)
              · have e48 : Hid (byt s (k + 1) = 48) := by unfold Hid; rw [HB1.out]; simpa using h48
                have hfin := seq_round hlt e36.out HST.out ⟨hj, fun x => x.2 e48.out⟩ HC.out
                have HF : Hid ((O ++ s.extract k j ++ ⟨#[59]⟩).data.toList ++ seqL (s.data.toList.drop (k + 1)) = seqL s.data.toList) := hfin
                clear hfin
                go_wp2_with fail
                go_roundg (s.size - (k + 1))
                case measure => omega
                case rel => exact ⟨k + 1, _, by omega, seq_fit hs HF.out, rfl, by go_num, rfl, HF.out, rfl⟩
              · have e48 : Hid (¬ byt s (k + 1) = 48) := by unfold Hid; rw [HB1.out]; simpa using h48
                go_wp2_with fail
                go_roundg (s.size - (k + 1))
                case measure => omega
                case rel => exact ⟨k + 1, O, by omega, hO, rfl, by go_num, rfl, by rw [← seq_skip hlt HST.out (fun x => x.2 ⟨HJE.out, e48.out⟩)]; exact HC.out, rfl⟩
            · have hje : ((j : Int) == (k : Int) + 2) = false := by simp; omega
              have hfin := seq_round hlt e36.out HST.out ⟨hj, fun x => hj2 x.1⟩ HC.out
              have HF : Hid ((O ++ s.extract k j ++ ⟨#[59]⟩).data.toList ++ seqL (s.data.toList.drop (k + 1)) = seqL s.data.toList) := hfin
              clear hfin
              go_wp2_with fail
              go_roundg (s.size - (k + 1))
              case measure => omega
              case rel => exact ⟨k + 1, _, by omega, seq_fit hs HF.out, rfl, by go_num, rfl, HF.out, rfl⟩
          · go_wp2_with fail
            go_roundg (s.size - (k + 1))
            case measure => omega
            case rel => exact ⟨k + 1, O, by omega, hO, rfl, by go_num, rfl, by rw [← seq_skip hlt HST.out (fun x => hj x.1)]; exact HC.out, rfl⟩
      · go_wp2_with fail
        go_roundg (s.size - (k + 1))
        case measure => omega
        case rel => exact ⟨k + 1, O, by omega, hO, rfl, by go_num, rfl, by rw [← seq_no36 hlt (fun x => by rw [HB.out] at x; simp [x] at h36)]; exact HC.out, rfl⟩
    · go_wp2_with fail
      go_ret
      have e := HC.out
      rw [drop_end s k (by omega)] at e
      exact ⟨ret_str (by rw [txt_list, ← e]; simp [seqL]), rfl⟩

end Go.Proofs.Qxb6603356a
