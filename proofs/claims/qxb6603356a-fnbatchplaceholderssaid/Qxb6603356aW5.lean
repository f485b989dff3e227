import Derived.Test.Qxb6603356aW4
namespace Go.Proofs.Qxb6603356a
open Go.RowKit

theorem cnt_le (n : Int) : ∀ l : List UInt8, cntL n l ≤ l.length
  | [] => Nat.le_refl _
  | x :: r => by
    have := cnt_le n r
    simp only [cntL, List.length_cons]
    split <;> omega

set_option maxHeartbeats 400000 in
theorem bytes11 (t : ByteArray) (q : Bool) (w : World) (h : t.size ≤ maxLen) :
    Calls Try.prog 11 #[.string t, .bool q] w fun e w' => e = .returned (.bool (decide (t.size ≤ 1048576))) ∧ w = w' := by
  unfold maxLen at h
  by_cases h1 : t.size ≤ 1048576
  all_goals
    go_enter Try.func11, Try.ntmps11
    go_wp2
    go_ret
    exact ⟨by simp [*], rfl⟩

set_option maxRecDepth 100000 in
set_option maxHeartbeats 1000000 in
theorem walk3 (t : ByteArray) (q : Bool) (hs : t.size ≤ maxLen) (w : World) :
    Calls Try.prog 3 #[.string t, .bool q] w fun e w' => e = .returned (.bool true) ∧ Grown w w' := by
  have hs' : t.size ≤ 9223372036854775807 := by unfold maxLen at hs; omega
  by_cases hz : t.size ≤ 1048576
  · by_cases hz2 : t.size ≤ 4096
    · go_enter Try.func3, Try.ntmps3
      go_wp2_with (go_at_call 11; refine (bytes11 t q _ hs).mono ?_; rintro e w' ⟨rfl, rfl⟩)
      refine (zzbatch_any t q _ hz2).mono ?_
      rintro e w1 ⟨rfl, rfl⟩
      have hg : Grown w (w.alloc (.cells #[.string t, .bool q] 36)) := (Grown.refl w).alloc _ _
      obtain ⟨w1, hw1⟩ : ∃ w1, w1 = w.alloc (.cells #[.string t, .bool q] 36) := ⟨_, rfl⟩
      rw [← hw1] at hg ⊢
      clear hw1
      obtain ⟨O, hO⟩ : ∃ O, O = batchT Try.f27 t q := ⟨_, rfl⟩
      rw [← hO]
      have hos : O.size ≤ 16384 := by rw [hO]; exact batch_size t q hz2
      have HC : Hid (∀ n : Int, 1 ≤ n → n ≤ 9 → cntL n O.data.toList = 2 * cntL n t.data.toList + (if n ≤ 3 then 1 else 0) + (if n = 4 ∧ q = true then 1 else 0)) := by
        rw [hO]; exact fun n => batch_cnt t q
      have HS : Hid (seqL O.data.toList = seqL t.data.toList ++ seqL t.data.toList) := by rw [hO]; exact batch_seq t q
      clear hO
      go_wp2_with fail
      go_loopg [6] 9 (fun g i wr => ∃ j : Nat, 1 ≤ j ∧ j ≤ 10 ∧ g = 10 - j ∧ i = .int .i64 j ∧ w1 = wr)
      case atStart => exact ⟨1, by omega, by omega, rfl, rfl, rfl⟩
      case round =>
        obtain ⟨j, j1, j2, hgk, rfl, rfl⟩ := hrel
        by_cases hj : j ≤ 9
        · have hc := HC.out j (by omega) (by omega)
          have hb := cnt_le j t.data.toList
          rw [size_list] at hb
          obtain ⟨c, hcd⟩ : ∃ c, c = cntL j t.data.toList := ⟨_, rfl⟩
          obtain ⟨C, hCd⟩ : ∃ C, C = cntL j O.data.toList := ⟨_, rfl⟩
          rw [← hcd] at hb hc
          rw [← hCd] at hc
          have HX : Hid (c = cntL j t.data.toList) := hcd
          have HY : Hid (C = cntL j O.data.toList) := hCd
          have HE : Hid (C = 2 * c + (if (j : Int) ≤ 3 then 1 else 0) + (if (j : Int) = 4 ∧ q = true then 1 else 0)) := hc
          clear hc hcd hCd
          by_cases h3 : j ≤ 3
          · have hj4 : ((j : Int) == 4) = false := by simp; omega
            have hne : ((C : Int) != 2 * (c : Int) + 1) = false := by
              have e := HE.out; rw [if_pos (by omega), if_neg (by omega)] at e; simp; omega
            go_wp2_with fail
            refine (phCount_any t j _ hz).mono ?_
            rintro e w2 ⟨he, rfl⟩
            rw [← HX.out] at he
            subst he
            go_wp2_with fail
            refine (phCount_any O j _ (by omega)).mono ?_
            rintro e w2 ⟨he, rfl⟩
            rw [← HY.out] at he
            subst he
            go_wp2_with fail
            go_roundg (10 - (j + 1))
            case measure => omega
            case rel => exact ⟨j + 1, by omega, by omega, rfl, by go_num, rfl⟩
          · by_cases h4 : j = 4
            · have hj4 : ((j : Int) == 4) = true := by simp; omega
              have H4 : Hid (j = 4) := h4
              clear h4
              cases q
              · skip
                have hne : ((C : Int) != 2 * (c : Int)) = false := by
                  have e := HE.out; rw [if_neg (by omega), if_neg (by simp)] at e; simp; omega
                go_wp2_with fail
                refine (phCount_any t j _ hz).mono ?_
                rintro e w2 ⟨he, rfl⟩
                rw [← HX.out] at he
                subst he
                go_wp2_with fail
                refine (phCount_any O j _ (by omega)).mono ?_
                rintro e w2 ⟨he, rfl⟩
                rw [← HY.out] at he
                subst he
                go_wp2_with fail
                go_roundg (10 - (j + 1))
                case measure => omega
                case rel => exact ⟨j + 1, by omega, by omega, rfl, by go_num, rfl⟩
              · skip
                have hne : ((C : Int) != 2 * (c : Int) + 1) = false := by
                  have e := HE.out; rw [if_neg (by omega), if_pos ⟨by have := H4.out; omega, rfl⟩] at e; simp; omega
                go_wp2_with fail
                refine (phCount_any t j _ hz).mono ?_
                rintro e w2 ⟨he, rfl⟩
                rw [← HX.out] at he
                subst he
                go_wp2_with fail
                refine (phCount_any O j _ (by omega)).mono ?_
                rintro e w2 ⟨he, rfl⟩
                rw [← HY.out] at he
                subst he
                go_wp2_with fail
                go_roundg (10 - (j + 1))
                case measure => omega
                case rel => exact ⟨j + 1, by omega, by omega, rfl, by go_num, rfl⟩
            · have hj4 : ((j : Int) == 4) = false := by simp; omega
              have hne : ((C : Int) != 2 * (c : Int)) = false := by
                have e := HE.out; rw [if_neg (by omega), if_neg (by omega)] at e; simp; omega
              go_wp2_with fail
              refine (phCount_any t j _ hz).mono ?_
              rintro e w2 ⟨he, rfl⟩
              rw [← HX.out] at he
              subst he
              go_wp2_with fail
              refine (phCount_any O j _ (by omega)).mono ?_
              rintro e w2 ⟨he, rfl⟩
              rw [← HY.out] at he
              subst he
              go_wp2_with fail
              go_roundg (10 - (j + 1))
              case measure => omega
              case rel => exact ⟨j + 1, by omega, by omega, rfl, by go_num, rfl⟩
        · go_wp2_with fail
          refine (phSeq_any t _ hz).mono ?_
          rintro e w2 ⟨rfl, rfl⟩
          have hl : (txt (seqL t.data.toList)).size ≤ 1099513724928 := by
            rw [← size_list, txt_list]; exact seq_cap t hz
          go_wp2_with fail
          refine (phSeq_any O _ (by omega)).mono ?_
          rintro e w2 ⟨rfl, rfl⟩
          have hE : ((txt (seqL O.data.toList)).toList == (txt (seqL t.data.toList) ++ txt (seqL t.data.toList)).toList) = true := by
            rw [show txt (seqL O.data.toList) = txt (seqL t.data.toList) ++ txt (seqL t.data.toList) from ByteArray.ext (Array.ext' (by rw [app_list, txt_list, txt_list, HS.out]))]
            simp
          go_wp2_with fail
          go_ret
          exact ⟨rfl, hg⟩
    · go_enter Try.func3, Try.ntmps3
      go_wp2_with (go_at_call 11; refine (bytes11 t q _ hs).mono ?_; rintro e w' ⟨rfl, rfl⟩)
      go_ret
      exact ⟨rfl, Grown.refl _⟩
  · go_enter Try.func3, Try.ntmps3
    go_wp2_with (go_at_call 11; refine (bytes11 t q _ hs).mono ?_; rintro e w' ⟨rfl, rfl⟩)
    go_ret
    exact ⟨rfl, Grown.refl _⟩

end Go.Proofs.Qxb6603356a
