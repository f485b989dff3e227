import Derived.Test.Qxb6603356aW2
namespace Go.Proofs.Qxb6603356a
open Go.RowKit

theorem pre_iff (nd l : List UInt8) : nd.isPrefixOf l = true ↔ l.take nd.length = nd := by
  rw [List.isPrefixOf_iff_prefix, List.prefix_iff_eq_take]
  exact ⟨fun h => h.symm, fun h => h.symm⟩

theorem has_short (nd : List UInt8) : ∀ l : List UInt8, l.length < nd.length → hasL nd l = false
  | [], h => by cases nd with
    | nil => exact absurd h (by simp)
    | cons => rfl
  | x :: r, h => by
    have ih := has_short nd r (by simp at h; omega)
    have h1 : nd.isPrefixOf (x :: r) = false := by
      rw [← Bool.not_eq_true, pre_iff]
      intro e
      have := congrArg List.length e
      rw [List.length_take] at this
      omega
    simp [hasL, h1, ih]

theorem has_here {s nd : ByteArray} {k : Nat} (h : s.extract k (k + nd.size) = nd) : hasL nd.data.toList (s.data.toList.drop k) = true := by
  have e : (s.data.toList.drop k).take nd.data.toList.length = nd.data.toList := by
    have := congrArg (fun b : ByteArray => b.data.toList) h
    simp only [ext_list] at this
    rw [size_list, ← this]
    congr 1
    omega
  by_cases hlt : k < s.size
  · rw [drop_cons s k hlt] at e ⊢
    show (nd.data.toList.isPrefixOf _ || _) = true
    rw [(pre_iff _ _).2 e]; rfl
  · rw [drop_end s k (by omega)] at e ⊢
    have h0 : nd.data.toList = [] := by rw [← e]; simp
    rw [h0]; rfl

theorem has_next {s nd : ByteArray} {k : Nat} (hk : k + nd.size ≤ s.size) (h : ¬ s.extract k (k + nd.size) = nd) : k < s.size ∧ hasL nd.data.toList (s.data.toList.drop k) = hasL nd.data.toList (s.data.toList.drop (k + 1)) := by
  have hlt : k < s.size := by
    apply Classical.byContradiction
    intro hn
    apply h
    apply ByteArray.ext
    apply Array.ext'
    rw [ext_list, drop_end s k (by omega)]
    have : nd.data.toList.length = 0 := by rw [size_list]; omega
    rw [List.eq_nil_of_length_eq_zero this]; simp
  refine ⟨hlt, ?_⟩
  have hp : nd.data.toList.isPrefixOf (s.data.toList.drop k) = false := by
    rw [← Bool.not_eq_true, pre_iff]
    intro e
    apply h
    apply ByteArray.ext
    apply Array.ext'
    rw [ext_list, ← size_list nd]
    rw [show k + nd.data.toList.length - k = nd.data.toList.length from by omega]
    exact e
  rw [drop_cons s k hlt] at hp ⊢
  show (nd.data.toList.isPrefixOf _ || _) = _
  rw [hp]; rfl

theorem str_eq_iff (a b : ByteArray) : (a.toList == b.toList) = true ↔ a = b := by
  rw [ByteArray.toList_eq, ByteArray.toList_eq, beq_iff_eq]
  exact ⟨fun h => ByteArray.ext (Array.ext' h), fun h => by rw [h]⟩

theorem str_ne {a b : ByteArray} (h : ¬ a = b) : (a.toList == b.toList) = false := by
  rw [← Bool.not_eq_true, str_eq_iff]; exact h

set_option maxRecDepth 100000 in
set_option maxHeartbeats 1000000 in
theorem has_any (s nd : ByteArray) (w : World) (hs : s.size ≤ 1048576) (hn : nd.size ≤ 1048576) :
    Calls Try.prog 23 #[.string s, .string nd] w fun e w' => e = .returned (.bool (hasL nd.data.toList s.data.toList)) ∧ w = w' := by
  go_enter Try.func23, Try.ntmps23
  go_wp2_with fail
  go_loopg [5] (s.size + 1) (fun g i wr => ∃ k : Nat, k ≤ s.size ∧ g = s.size + 1 - k ∧ i = .int .i64 k ∧ hasL nd.data.toList s.data.toList = hasL nd.data.toList (s.data.toList.drop k) ∧ w = wr)
  case atStart => exact ⟨0, by omega, rfl, rfl, by simp, rfl⟩
  case round =>
    obtain ⟨k, hk, hg, rfl, hh, rfl⟩ := hrel
    have HH : Hid (hasL nd.data.toList s.data.toList = hasL nd.data.toList (s.data.toList.drop k)) := hh
    clear hh
    by_cases hk2 : k + nd.size ≤ s.size
    · by_cases he : s.extract k (k + nd.size) = nd
      · have hc := (str_eq_iff _ _).2 he
        have HE : Hid (s.extract k (k + nd.size) = nd) := he
        clear he
        go_wp2_with fail
        go_ret
        exact ⟨by rw [HH.out, has_here HE.out]; rfl, rfl⟩
      · have hc := str_ne he
        obtain ⟨hlt, hnx⟩ := has_next hk2 he
        have HN : Hid (hasL nd.data.toList (s.data.toList.drop k) = hasL nd.data.toList (s.data.toList.drop (k + 1))) := hnx
        clear he hnx
        go_wp2_with fail
        go_roundg (s.size + 1 - (k + 1))
        case measure => omega
        case rel => exact ⟨k + 1, by omega, rfl, by go_num, HH.out.trans HN.out, rfl⟩
    · go_wp2_with fail
      go_ret
      have e := has_short nd.data.toList (s.data.toList.drop k) (by rw [List.length_drop, size_list, size_list]; omega)
      exact ⟨by rw [HH.out, e]; rfl, rfl⟩

end Go.Proofs.Qxb6603356a
