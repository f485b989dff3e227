import Derived.Test.Qxb6603356aW14
import Derived.Test.Qxb6603356aW10
namespace Go.Proofs.Qxb6603356a
open Go.RowKit

set_option maxRecDepth 100000 in
set_option maxHeartbeats 2000000 in
theorem walk8 (p r i o : ByteArray) (q : Bool) (hp : p.size ≤ maxLen) (hr : r.size ≤ maxLen) (hi : i.size ≤ maxLen) (ho : o.size ≤ maxLen) (w : World) :
    Calls Try.prog 8 #[.string p, .string r, .string i, .string o, .bool q] w fun e w' => e = .returned (.bool true) ∧ Grown w w' := by
  unfold maxLen at hp hr hi ho
  by_cases h0 : 4096 < p.size
  · skip
    go_enter Try.func8, Try.ntmps8
    go_wp2_with fail
    refine (bytes22_any p r i o q _).mono ?_
    rintro x w' ⟨v, rfl, rfl⟩
    cases v
    · go_wp2_with fail
      go_ret
      exact ⟨rfl, Grown.refl _⟩
    · go_wp2_with fail
      go_ret
      exact ⟨rfl, Grown.refl _⟩
  · have h0 : p.size ≤ 4096 := by omega
    by_cases h1 : 4096 < r.size
    · skip
      go_enter Try.func8, Try.ntmps8
      go_wp2_with fail
      refine (bytes22_any p r i o q _).mono ?_
      rintro x w' ⟨v, rfl, rfl⟩
      cases v
      · go_wp2_with fail
        go_ret
        exact ⟨rfl, Grown.refl _⟩
      · go_wp2_with fail
        go_ret
        exact ⟨rfl, Grown.refl _⟩
    · have h1 : r.size ≤ 4096 := by omega
      by_cases h2 : 4096 < i.size
      · skip
        go_enter Try.func8, Try.ntmps8
        go_wp2_with fail
        refine (bytes22_any p r i o q _).mono ?_
        rintro x w' ⟨v, rfl, rfl⟩
        cases v
        · go_wp2_with fail
          go_ret
          exact ⟨rfl, Grown.refl _⟩
        · go_wp2_with fail
          go_ret
          exact ⟨rfl, Grown.refl _⟩
      · have h2 : i.size ≤ 4096 := by omega
        by_cases h3 : 4096 < o.size
        · skip
          go_enter Try.func8, Try.ntmps8
          go_wp2_with fail
          refine (bytes22_any p r i o q _).mono ?_
          rintro x w' ⟨v, rfl, rfl⟩
          cases v
          · go_wp2_with fail
            go_ret
            exact ⟨rfl, Grown.refl _⟩
          · go_wp2_with fail
            go_ret
            exact ⟨rfl, Grown.refl _⟩
        · have h3 : o.size ≤ 4096 := by omega
          go_enter Try.func8, Try.ntmps8
          go_wp2_with fail
          refine (bytes22 p r i o q _ h0 h1 h2 h3).mono ?_
          rintro x w' ⟨rfl, rfl⟩
          go_wp2_with fail
          refine (zzPlain_any p r i o q _ h0 h1 h2).mono ?_
          rintro x w1 ⟨rfl, hg⟩
          obtain ⟨O, hO⟩ : ∃ O, O = claimT Try.f30 Try.f32 Try.f33 Try.f34 Try.f35 Try.f36 Try.f37 ⟨#[110, 101, 120, 116]⟩ ⟨#[116, 97, 107, 101, 110]⟩ p r i q := ⟨_, rfl⟩
          rw [← hO]
          have HC : Hid (∀ n : Int, 1 ≤ n → n ≤ 9 → decide (0 < cntL n O.data.toList) = wantB n (cntL n r.data.toList) (cntL n p.data.toList) (cntL n i.data.toList) q) := by
            rw [hO]; exact fun n => claim_cnt p r i q
          have HO : Hid (O = claimT Try.f30 Try.f32 Try.f33 Try.f34 Try.f35 Try.f36 Try.f37 ⟨#[110, 101, 120, 116]⟩ ⟨#[116, 97, 107, 101, 110]⟩ p r i q) := hO
          have hOs : O.size ≤ 262144 := by rw [hO]; exact claim_size p r i q h0 h1 h2
          clear hO
          go_wp2_with fail
          go_loopg [12] 9 (fun g v wr => ∃ j : Nat, 1 ≤ j ∧ j ≤ 10 ∧ g = 10 - j ∧ v = .int .i64 j ∧ w1 = wr)
          case atStart => exact ⟨1, by omega, by omega, rfl, rfl, rfl⟩
          case round =>
            obtain ⟨j, j1, j2, hgk, rfl, rfl⟩ := hrel
            by_cases hj : j ≤ 9
            · obtain ⟨cr, hcr⟩ : ∃ c, c = cntL j r.data.toList := ⟨_, rfl⟩
              obtain ⟨cp, hcp⟩ : ∃ c, c = cntL j p.data.toList := ⟨_, rfl⟩
              obtain ⟨ci, hci⟩ : ∃ c, c = cntL j i.data.toList := ⟨_, rfl⟩
              obtain ⟨C, hC⟩ : ∃ c, c = cntL j O.data.toList := ⟨_, rfl⟩
              have hw := HC.out j (by omega) (by omega)
              rw [← hcr, ← hcp, ← hci, ← hC] at hw
              have HR : Hid (cr = cntL j r.data.toList) := hcr
              have HP : Hid (cp = cntL j p.data.toList) := hcp
              have HI : Hid (ci = cntL j i.data.toList) := hci
              have HCC : Hid (C = cntL j O.data.toList) := hC
              have HW : Hid (decide (0 < C) = wantB j cr cp ci q) := hw
              clear hcr hcp hci hC hw
              go_upto_region 9 with fail
              go_cut [13] (fun v wr => v = .bool (wantB j cr cp ci q) ∧ w1 = wr)
              case first =>
                by_cases h5 : j ≤ 5
                · go_wp2_with fail
                  go_meet
                  case rel => exact ⟨by simp [wantB]; omega, rfl⟩
                · have h5' : decide (j ≤ 5) = false := by simpa using h5
                  by_cases hr0 : 0 < cr
                  · go_wp2_with fail
                    refine (phCount_any r j _ (by omega)).mono ?_
                    rintro e w2 ⟨he, rfl⟩
                    rw [← HR.out] at he
                    subst he
                    go_wp2_with fail
                    go_meet
                    case rel => exact ⟨by simp [wantB, hr0], rfl⟩
                  · obtain rfl : cr = 0 := by omega
                    by_cases hp0 : 0 < cp
                    · go_wp2_with fail
                      refine (phCount_any r j _ (by omega)).mono ?_
                      rintro e w2 ⟨he, rfl⟩
                      rw [← HR.out] at he
                      subst he
                      go_wp2_with fail
                      refine (phCount_any p j _ (by omega)).mono ?_
                      rintro e w2 ⟨he, rfl⟩
                      rw [← HP.out] at he
                      subst he
                      go_wp2_with fail
                      go_meet
                      case rel => exact ⟨by simp [wantB, hp0], rfl⟩
                    · obtain rfl : cp = 0 := by omega
                      cases q
                      · go_wp2_with fail
                        refine (phCount_any r j _ (by omega)).mono ?_
                        rintro e w2 ⟨he, rfl⟩
                        rw [← HR.out] at he
                        subst he
                        go_wp2_with fail
                        refine (phCount_any p j _ (by omega)).mono ?_
                        rintro e w2 ⟨he, rfl⟩
                        rw [← HP.out] at he
                        subst he
                        go_wp2_with fail
                        go_meet
                        case rel => exact ⟨by simp [wantB], rfl⟩
                      · go_wp2_with fail
                        refine (phCount_any r j _ (by omega)).mono ?_
                        rintro e w2 ⟨he, rfl⟩
                        rw [← HR.out] at he
                        subst he
                        go_wp2_with fail
                        refine (phCount_any p j _ (by omega)).mono ?_
                        rintro e w2 ⟨he, rfl⟩
                        rw [← HP.out] at he
                        subst he
                        go_wp2_with fail
                        refine (phCount_any i j _ (by omega)).mono ?_
                        rintro e w2 ⟨he, rfl⟩
                        rw [← HI.out] at he
                        subst he
                        go_wp2_with fail
                        go_meet
                        case rel => exact ⟨by simp [wantB], rfl⟩
              case rest =>
                obtain ⟨rfl, rfl⟩ := hcut
                have hwc := HW.out
                obtain ⟨b, hb⟩ : ∃ b, b = wantB j cr cp ci q := ⟨_, rfl⟩
                rw [← hb] at hwc ⊢
                clear hb
                cases b
                · obtain rfl : C = 0 := by simpa using hwc
                  clear hwc
                  go_wp2_with fail
                  refine (phCount_any O j _ (by omega)).mono ?_
                  rintro e w2 ⟨he, rfl⟩
                  rw [← HCC.out] at he
                  subst he
                  go_wp2_with fail
                  go_roundg (10 - (j + 1))
                  case measure => omega
                  case rel => exact ⟨j + 1, by omega, by omega, rfl, by go_num, rfl⟩
                · have hC0 : 0 < C := by simpa using hwc
                  clear hwc
                  go_wp2_with fail
                  refine (phCount_any O j _ (by omega)).mono ?_
                  rintro e w2 ⟨he, rfl⟩
                  rw [← HCC.out] at he
                  subst he
                  go_wp2_with fail
                  go_roundg (10 - (j + 1))
                  case measure => omega
                  case rel => exact ⟨j + 1, by omega, by omega, rfl, by go_num, rfl⟩
            · skip
              have hsr : (txt (seqL r.data.toList)).size ≤ 1099513724928 := by rw [← size_list, txt_list]; exact seq_cap r (by omega)
              have hsp : (txt (seqL p.data.toList)).size ≤ 1099513724928 := by rw [← size_list, txt_list]; exact seq_cap p (by omega)
              have hsi : (txt (seqL i.data.toList)).size ≤ 1099513724928 := by rw [← size_list, txt_list]; exact seq_cap i (by omega)
              obtain ⟨x0, hx0⟩ : ∃ x, x = hasL (argAt Try.f8 94).data.toList O.data.toList := ⟨_, rfl⟩
              obtain ⟨x1, hx1⟩ : ∃ x, x = hasL (argAt Try.f8 94).data.toList r.data.toList := ⟨_, rfl⟩
              obtain ⟨x2, hx2⟩ : ∃ x, x = hasL (argAt Try.f8 94).data.toList p.data.toList := ⟨_, rfl⟩
              obtain ⟨y0, hy0⟩ : ∃ x, x = hasL (argAt Try.f8 106).data.toList O.data.toList := ⟨_, rfl⟩
              obtain ⟨y1, hy1⟩ : ∃ x, x = hasL (argAt Try.f8 106).data.toList r.data.toList := ⟨_, rfl⟩
              obtain ⟨y2, hy2⟩ : ∃ x, x = hasL (argAt Try.f8 106).data.toList p.data.toList := ⟨_, rfl⟩
              have X0 : Hid (x0 = hasL (argAt Try.f8 94).data.toList O.data.toList) := hx0
              have X1 : Hid (x1 = hasL (argAt Try.f8 94).data.toList r.data.toList) := hx1
              have X2 : Hid (x2 = hasL (argAt Try.f8 94).data.toList p.data.toList) := hx2
              have Y0 : Hid (y0 = hasL (argAt Try.f8 106).data.toList O.data.toList) := hy0
              have Y1 : Hid (y1 = hasL (argAt Try.f8 106).data.toList r.data.toList) := hy1
              have Y2 : Hid (y2 = hasL (argAt Try.f8 106).data.toList p.data.toList) := hy2
              have HX : Hid (x0 = (q || x1 || x2)) := by unfold Hid; rw [hx0, hx1, hx2, HO.out]; exact claim_has needle1 p r i q
              have HY : Hid (y0 = (q || y1 || y2)) := by unfold Hid; rw [hy0, hy1, hy2, HO.out]; exact claim_has needle2 p r i q
              have hn1 := needle_size.1
              have hn2 := needle_size.2
              clear hx0 hx1 hx2 hy0 hy1 hy2
              go_wp2_with fail
              refine (phSeq_any r _ (by omega)).mono ?_
              rintro e w2 ⟨rfl, rfl⟩
              go_wp2_with fail
              refine (phSeq_any p _ (by omega)).mono ?_
              rintro e w2 ⟨rfl, rfl⟩
              cases q
              · have hE : ((txt (seqL O.data.toList)).toList == (txt (seqL r.data.toList) ++ txt (seqL p.data.toList)).toList) = true := by
                  rw [str_eq_iff]
                  exact ByteArray.ext (Array.ext' (by rw [app_list, txt_list, txt_list, txt_list, HO.out, claim_seq0]))
                go_wp2_with fail
                refine (phSeq_any O _ (by omega)).mono ?_
                rintro e w2 ⟨rfl, rfl⟩
                go_upto_region 17 with fail
                go_cut [104] (fun v wr => v = .bool false ∧ w1 = wr)
                case first =>
                  cases x1
                  · cases x2
                    · obtain rfl : x0 = false := by have := HX.out; simpa using this
                      go_wp2_with fail
                      refine (has_any O (argAt Try.f8 94) _ (by omega) (by omega)).mono ?_
                      rintro e w2 ⟨he, rfl⟩
                      rw [← X0.out] at he
                      subst he
                      go_wp2_with fail
                      refine (has_any r (argAt Try.f8 94) _ (by omega) (by omega)).mono ?_
                      rintro e w2 ⟨he, rfl⟩
                      rw [← X1.out] at he
                      subst he
                      go_wp2_with fail
                      refine (has_any p (argAt Try.f8 94) _ (by omega) (by omega)).mono ?_
                      rintro e w2 ⟨he, rfl⟩
                      rw [← X2.out] at he
                      subst he
                      go_wp2_with fail
                      go_meet
                      case rel => exact ⟨rfl, rfl⟩
                    · obtain rfl : x0 = true := by have := HX.out; simpa using this
                      go_wp2_with fail
                      refine (has_any O (argAt Try.f8 94) _ (by omega) (by omega)).mono ?_
                      rintro e w2 ⟨he, rfl⟩
                      rw [← X0.out] at he
                      subst he
                      go_wp2_with fail
                      refine (has_any r (argAt Try.f8 94) _ (by omega) (by omega)).mono ?_
                      rintro e w2 ⟨he, rfl⟩
                      rw [← X1.out] at he
                      subst he
                      go_wp2_with fail
                      refine (has_any p (argAt Try.f8 94) _ (by omega) (by omega)).mono ?_
                      rintro e w2 ⟨he, rfl⟩
                      rw [← X2.out] at he
                      subst he
                      go_wp2_with fail
                      go_meet
                      case rel => exact ⟨rfl, rfl⟩
                  · obtain rfl : x0 = true := by have := HX.out; simpa using this
                    go_wp2_with fail
                    refine (has_any O (argAt Try.f8 94) _ (by omega) (by omega)).mono ?_
                    rintro e w2 ⟨he, rfl⟩
                    rw [← X0.out] at he
                    subst he
                    go_wp2_with fail
                    refine (has_any r (argAt Try.f8 94) _ (by omega) (by omega)).mono ?_
                    rintro e w2 ⟨he, rfl⟩
                    rw [← X1.out] at he
                    subst he
                    go_wp2_with fail
                    go_meet
                    case rel => exact ⟨rfl, rfl⟩
                case rest =>
                  obtain ⟨rfl, rfl⟩ := hcut
                  cases y1
                  · cases y2
                    · obtain rfl : y0 = false := by have := HY.out; simpa using this
                      go_wp2_with fail
                      refine (has_any O (argAt Try.f8 106) _ (by omega) (by omega)).mono ?_
                      rintro e w2 ⟨he, rfl⟩
                      rw [← Y0.out] at he
                      subst he
                      go_wp2_with fail
                      refine (has_any r (argAt Try.f8 106) _ (by omega) (by omega)).mono ?_
                      rintro e w2 ⟨he, rfl⟩
                      rw [← Y1.out] at he
                      subst he
                      go_wp2_with fail
                      refine (has_any p (argAt Try.f8 106) _ (by omega) (by omega)).mono ?_
                      rintro e w2 ⟨he, rfl⟩
                      rw [← Y2.out] at he
                      subst he
                      go_wp2_with fail
                      go_ret
                      exact ⟨rfl, hg⟩
                    · obtain rfl : y0 = true := by have := HY.out; simpa using this
                      go_wp2_with fail
                      refine (has_any O (argAt Try.f8 106) _ (by omega) (by omega)).mono ?_
                      rintro e w2 ⟨he, rfl⟩
                      rw [← Y0.out] at he
                      subst he
                      go_wp2_with fail
                      refine (has_any r (argAt Try.f8 106) _ (by omega) (by omega)).mono ?_
                      rintro e w2 ⟨he, rfl⟩
                      rw [← Y1.out] at he
                      subst he
                      go_wp2_with fail
                      refine (has_any p (argAt Try.f8 106) _ (by omega) (by omega)).mono ?_
                      rintro e w2 ⟨he, rfl⟩
                      rw [← Y2.out] at he
                      subst he
                      go_wp2_with fail
                      go_ret
                      exact ⟨rfl, hg⟩
                  · obtain rfl : y0 = true := by have := HY.out; simpa using this
                    go_wp2_with fail
                    refine (has_any O (argAt Try.f8 106) _ (by omega) (by omega)).mono ?_
                    rintro e w2 ⟨he, rfl⟩
                    rw [← Y0.out] at he
                    subst he
                    go_wp2_with fail
                    refine (has_any r (argAt Try.f8 106) _ (by omega) (by omega)).mono ?_
                    rintro e w2 ⟨he, rfl⟩
                    rw [← Y1.out] at he
                    subst he
                    go_wp2_with fail
                    go_ret
                    exact ⟨rfl, hg⟩
              · have hE : ((txt (seqL O.data.toList)).toList == (txt (seqL r.data.toList) ++ txt (seqL p.data.toList) ++ txt (seqL i.data.toList)).toList) = true := by
                  rw [str_eq_iff]
                  exact ByteArray.ext (Array.ext' (by rw [app_list, app_list, txt_list, txt_list, txt_list, txt_list, HO.out, claim_seq1]))
                obtain rfl : x0 = true := by have := HX.out; simpa using this
                obtain rfl : y0 = true := by have := HY.out; simpa using this
                go_wp2_with fail
                refine (phSeq_any i _ (by omega)).mono ?_
                rintro e w2 ⟨rfl, rfl⟩
                go_wp2_with fail
                refine (phSeq_any O _ (by omega)).mono ?_
                rintro e w2 ⟨rfl, rfl⟩
                go_wp2_with fail
                refine (has_any O (argAt Try.f8 94) _ (by omega) (by omega)).mono ?_
                rintro e w2 ⟨he, rfl⟩
                rw [← X0.out] at he
                subst he
                go_wp2_with fail
                refine (has_any O (argAt Try.f8 106) _ (by omega) (by omega)).mono ?_
                rintro e w2 ⟨he, rfl⟩
                rw [← Y0.out] at he
                subst he
                go_wp2_with fail
                go_ret
                exact ⟨rfl, hg⟩

end Go.Proofs.Qxb6603356a
