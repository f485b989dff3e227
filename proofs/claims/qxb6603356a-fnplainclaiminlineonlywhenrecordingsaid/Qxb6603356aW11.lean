import Derived.Test.Qxb6603356aW10
namespace Go.Proofs.Qxb6603356a
open Go.RowKit

theorem grown_trans {a b c : World} (h : Grown a b) (k : Grown b c) : Grown a c := by
  refine ⟨?_, fun x => (k.2.1 x).trans (h.2.1 x), Nat.le_trans h.2.2 k.2.2⟩
  exact World.keptBut_trans h.1 k.1

set_option maxRecDepth 100000 in
set_option maxHeartbeats 2000000 in
theorem walk7 (p r iA iB oA oB : ByteArray) (q : Bool) (hp : p.size ≤ maxLen) (hr : r.size ≤ maxLen) (hiA : iA.size ≤ maxLen) (hiB : iB.size ≤ maxLen) (hoA : oA.size ≤ maxLen) (hoB : oB.size ≤ maxLen) (w : World) :
    Calls Try.prog 7 #[.string p, .string r, .string iA, .string iB, .string oA, .string oB, .bool q] w fun e w' => e = .returned (.bool true) ∧ Grown w w' := by
  unfold maxLen at hp hr hiA hiB hoA hoB
  by_cases h0 : 4096 < p.size
  · skip
    go_enter Try.func7, Try.ntmps7
    go_wp2_with fail
    refine (bytes21_any p r iA iB oA oB q _).mono ?_
    rintro x w' ⟨v, rfl, rfl⟩
    cases v
    · go_wp2_with fail
      go_ret
      exact ⟨rfl, Grown.refl _⟩
    · go_wp2_with fail
      go_ret
      exact ⟨rfl, Grown.refl _⟩
  · have h0 : p.size ≤ 4096 := by omega
    by_cases h1 : 4096 < r.size
    · skip
      go_enter Try.func7, Try.ntmps7
      go_wp2_with fail
      refine (bytes21_any p r iA iB oA oB q _).mono ?_
      rintro x w' ⟨v, rfl, rfl⟩
      cases v
      · go_wp2_with fail
        go_ret
        exact ⟨rfl, Grown.refl _⟩
      · go_wp2_with fail
        go_ret
        exact ⟨rfl, Grown.refl _⟩
    · have h1 : r.size ≤ 4096 := by omega
      by_cases h2 : 4096 < iA.size
      · skip
        go_enter Try.func7, Try.ntmps7
        go_wp2_with fail
        refine (bytes21_any p r iA iB oA oB q _).mono ?_
        rintro x w' ⟨v, rfl, rfl⟩
        cases v
        · go_wp2_with fail
          go_ret
          exact ⟨rfl, Grown.refl _⟩
        · go_wp2_with fail
          go_ret
          exact ⟨rfl, Grown.refl _⟩
      · have h2 : iA.size ≤ 4096 := by omega
        by_cases h3 : 4096 < iB.size
        · skip
          go_enter Try.func7, Try.ntmps7
          go_wp2_with fail
          refine (bytes21_any p r iA iB oA oB q _).mono ?_
          rintro x w' ⟨v, rfl, rfl⟩
          cases v
          · go_wp2_with fail
            go_ret
            exact ⟨rfl, Grown.refl _⟩
          · go_wp2_with fail
            go_ret
            exact ⟨rfl, Grown.refl _⟩
        · have h3 : iB.size ≤ 4096 := by omega
          by_cases h4 : 4096 < oA.size
          · skip
            go_enter Try.func7, Try.ntmps7
            go_wp2_with fail
            refine (bytes21_any p r iA iB oA oB q _).mono ?_
            rintro x w' ⟨v, rfl, rfl⟩
            cases v
            · go_wp2_with fail
              go_ret
              exact ⟨rfl, Grown.refl _⟩
            · go_wp2_with fail
              go_ret
              exact ⟨rfl, Grown.refl _⟩
          · have h4 : oA.size ≤ 4096 := by omega
            by_cases h5 : 4096 < oB.size
            · skip
              go_enter Try.func7, Try.ntmps7
              go_wp2_with fail
              refine (bytes21_any p r iA iB oA oB q _).mono ?_
              rintro x w' ⟨v, rfl, rfl⟩
              cases v
              · go_wp2_with fail
                go_ret
                exact ⟨rfl, Grown.refl _⟩
              · go_wp2_with fail
                go_ret
                exact ⟨rfl, Grown.refl _⟩
            · have h5 : oB.size ≤ 4096 := by omega
              go_enter Try.func7, Try.ntmps7
              go_wp2_with fail
              refine (bytes21 p r iA iB oA oB q _ h0 h1 h2 h3 h4 h5).mono ?_
              rintro x w' ⟨rfl, rfl⟩
              go_wp2_with fail
              refine (zzPlain_any p r ⟨#[]⟩ oA q _ h0 h1 (by decide)).mono ?_
              rintro x w1 ⟨rfl, hg1⟩
              obtain ⟨E, hE⟩ : ∃ E, E = claimT Try.f30 Try.f32 Try.f33 Try.f34 Try.f35 Try.f36 Try.f37 ⟨#[110, 101, 120, 116]⟩ ⟨#[116, 97, 107, 101, 110]⟩ p r ⟨#[]⟩ q := ⟨_, rfl⟩
              rw [← hE]
              have HE : Hid (E = claimT Try.f30 Try.f32 Try.f33 Try.f34 Try.f35 Try.f36 Try.f37 ⟨#[110, 101, 120, 116]⟩ ⟨#[116, 97, 107, 101, 110]⟩ p r ⟨#[]⟩ q) := hE
              clear hE
              go_wp2_with fail
              refine (zzPlain_any p r iA oA q _ h0 h1 h2).mono ?_
              rintro x w2 ⟨rfl, hg2⟩
              obtain ⟨A, hA⟩ : ∃ A, A = claimT Try.f30 Try.f32 Try.f33 Try.f34 Try.f35 Try.f36 Try.f37 ⟨#[110, 101, 120, 116]⟩ ⟨#[116, 97, 107, 101, 110]⟩ p r iA q := ⟨_, rfl⟩
              rw [← hA]
              have HA : Hid (A = claimT Try.f30 Try.f32 Try.f33 Try.f34 Try.f35 Try.f36 Try.f37 ⟨#[110, 101, 120, 116]⟩ ⟨#[116, 97, 107, 101, 110]⟩ p r iA q) := hA
              clear hA
              go_wp2_with fail
              refine (zzPlain_any p r iB oB q _ h0 h1 h3).mono ?_
              rintro x w3 ⟨rfl, hg3⟩
              obtain ⟨Bx, hBx⟩ : ∃ Bx, Bx = claimT Try.f30 Try.f32 Try.f33 Try.f34 Try.f35 Try.f36 Try.f37 ⟨#[110, 101, 120, 116]⟩ ⟨#[116, 97, 107, 101, 110]⟩ p r iB q := ⟨_, rfl⟩
              rw [← hBx]
              have HB : Hid (Bx = claimT Try.f30 Try.f32 Try.f33 Try.f34 Try.f35 Try.f36 Try.f37 ⟨#[110, 101, 120, 116]⟩ ⟨#[116, 97, 107, 101, 110]⟩ p r iB q) := hBx
              clear hBx
              have hg : Grown w w3 := grown_trans (grown_trans hg1 hg2) hg3
              clear hg1 hg2 hg3
              cases q
              · have q1 : (A.toList == E.toList) = true := by rw [HA.out, HE.out, claim_plain (i := iA) (j := ⟨#[]⟩)]; simp
                have q2 : (Bx.toList == E.toList) = true := by rw [HB.out, HE.out, claim_plain (i := iB) (j := ⟨#[]⟩)]; simp
                go_wp2_with fail
                go_ret
                exact ⟨rfl, hg⟩
              · obtain ⟨I, hI⟩ := claim_hole p r iA iB
                rw [← HA.out, ← HB.out, ← HE.out] at hI
                have hEs : E.size ≤ 262144 := by rw [HE.out]; exact claim_size p r ⟨#[]⟩ true h0 h1 (by decide)
                go_wp2_with fail
                refine (sameHole_any E iA A iB Bx I _ hEs (by omega) (by omega) hI).mono ?_
                rintro x w4 ⟨rfl, n, rfl⟩
                have hg : Grown w (w3.drewN n) := hg
                go_wp2_with fail
                go_ret
                exact ⟨rfl, hg⟩

end Go.Proofs.Qxb6603356a
