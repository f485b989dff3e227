import Derived.Test.Qxb6603356aP1
namespace Go.Proofs.Qxb6603356a
open Go.RowKit

/-! ### One step of the scans, by places -/

theorem drop_cons (s : ByteArray) (k : Nat) (h : k < s.size) : s.data.toList.drop k = s[k] :: s.data.toList.drop (k + 1) := by
  have h' : k < s.data.toList.length := by simpa using h
  rw [List.drop_eq_getElem_cons h']
  rfl

theorem drop_end (s : ByteArray) (k : Nat) (h : s.size ≤ k) : s.data.toList.drop k = [] := List.drop_eq_nil_of_le (by simpa using h)

theorem getD_drop (s : ByteArray) (k i : Nat) : (((s.data.toList.drop k).getD i 0).toNat : Int) = byt s (k + i) := by
  unfold byt
  rw [List.getD_eq_getElem?_getD, List.getD_eq_getElem?_getD, List.getElem?_drop]

theorem hit_iff (s : ByteArray) (n : Int) (k : Nat) (h : k < s.size) :
    hitL n s[k] ((s.data.toList.drop (k + 1)).getD 0 0) ((s.data.toList.drop (k + 1)).getD 1 0) = true ↔ byt s k = 36 ∧ dig (byt s (k + 1)) = true ∧ dig (byt s (k + 2)) = false ∧ byt s (k + 1) - 48 = n := by
  have e0 := byt_at s k h
  have e1 := getD_drop s (k + 1) 0
  have e2 := getD_drop s (k + 1) 1
  rw [Nat.add_zero] at e1
  unfold hitL dgt
  rw [e1, e2, e0]
  simp only [Bool.and_eq_true, beq_iff_eq, Bool.not_eq_true']
  constructor
  · rintro ⟨⟨⟨h1, h2⟩, h3⟩, h4⟩; exact ⟨by omega, h2, h3, h4⟩
  · rintro ⟨h1, h2, h3, h4⟩; exact ⟨⟨⟨by omega, h2⟩, h3⟩, h4⟩

theorem cnt_hit {s : ByteArray} {n : Int} {k j : Nat} (h : k < s.size) (h36 : byt s k = 36) (hst : Stop dig s (k + 1) j) (hj : j = k + 2) (hn : byt s (k + 1) - 48 = n) :
    cntL n (s.data.toList.drop k) = 1 + cntL n (s.data.toList.drop (k + 1)) := by
  rw [drop_cons s k h]
  show (if _ then 1 else 0) + _ = _
  rw [if_pos ((hit_iff s n k h).2 ⟨h36, hst.all (k + 1) (by omega) (by omega), by rw [← hj]; exact stop_out hst, hn⟩)]

theorem cnt_miss {s : ByteArray} {n : Int} {k : Nat} (h : k < s.size) (hm : ¬ (byt s k = 36 ∧ dig (byt s (k + 1)) = true ∧ dig (byt s (k + 2)) = false ∧ byt s (k + 1) - 48 = n)) :
    cntL n (s.data.toList.drop k) = cntL n (s.data.toList.drop (k + 1)) := by
  rw [drop_cons s k h]
  show (if _ then 1 else 0) + _ = _
  rw [if_neg (fun x => hm ((hit_iff s n k h).1 x))]
  omega

theorem cnt_miss1 {s : ByteArray} {n : Int} {k j : Nat} (h : k < s.size) (hst : Stop dig s (k + 1) j) (hj : ¬ j = k + 2) :
    cntL n (s.data.toList.drop k) = cntL n (s.data.toList.drop (k + 1)) := by
  refine cnt_miss h ?_
  rintro ⟨_, h1, h2, _⟩
  have h3 := dig_in h1
  have h4 := hst.lo
  by_cases e : j = k + 1
  · have := stop_out hst
    rw [e, h1] at this
    exact absurd this (by simp)
  · have := hst.all (k + 2) (by omega) (by omega)
    rw [h2] at this
    exact absurd this (by simp)

theorem take_eq : ∀ (m : Nat) (l : List UInt8), (∀ i, i < m → dgt (l.getD i 0) = true) → dgt (l.getD m 0) = false → l.takeWhile dgt = l.take m
  | 0, [], _, _ => rfl
  | 0, x :: r, _, h => by
    have : dgt x = false := h
    simp [this]
  | m + 1, [], h, _ => by
    have := h 0 (by omega)
    exact absurd this (by decide)
  | m + 1, x :: r, h, h2 => by
    have h0 : dgt x = true := h 0 (by omega)
    have ih := take_eq m r (fun i hi => by have := h (i + 1) (by omega); simpa using this) (by simpa using h2)
    rw [List.takeWhile_cons, h0, if_pos rfl, ih]
    rfl

theorem take_stop {s : ByteArray} {p j : Nat} (h : Stop dig s p j) : (s.data.toList.drop p).takeWhile dgt = (s.data.toList.drop p).take (j - p) := by
  have hlo := h.lo
  apply take_eq
  · intro i hi
    unfold dgt
    rw [getD_drop]
    exact h.all _ (by omega) (by omega)
  · unfold dgt
    rw [getD_drop, show p + (j - p) = j from by omega]
    exact stop_out h

theorem ext_list (s : ByteArray) (a b : Nat) : (s.extract a b).data.toList = (s.data.toList.drop a).take (b - a) := by
  simp [ByteArray.data_extract, Array.toList_extract, List.extract_eq_take_drop]

theorem seq_step {s : ByteArray} {k j : Nat} (h : k < s.size) (hst : Stop dig s (k + 1) j) :
    seqL (s.data.toList.drop k) = seqAt s[k] ((s.data.toList.drop (k + 1)).take (j - (k + 1))) ++ seqL (s.data.toList.drop (k + 1)) := by
  rw [drop_cons s k h, ← take_stop hst]
  rfl

theorem seq_no36 {s : ByteArray} {k : Nat} (h : k < s.size) (hn : ¬ byt s k = 36) : seqL (s.data.toList.drop k) = seqL (s.data.toList.drop (k + 1)) := by
  rw [drop_cons s k h, seq_one]
  rw [byt_at s k h] at hn
  simp
  omega

theorem keep_iff {s : ByteArray} {k j : Nat} (hst : Stop dig s (k + 1) j) : keepL ((s.data.toList.drop (k + 1)).take (j - (k + 1))) = true ↔ k + 1 < j ∧ ¬ (j = k + 2 ∧ byt s (k + 1) ≠ 48) := by
  have hlo := hst.lo
  have hhi := hst.hi
  have hl : ((s.data.toList.drop (k + 1)).take (j - (k + 1))).length = j - (k + 1) := by
    rw [List.length_take, List.length_drop]
    have : s.data.toList.length = s.size := by simp
    omega
  unfold keepL
  rw [hl]
  by_cases h1 : k + 1 < j
  · have e : (((s.data.toList.drop (k + 1)).take (j - (k + 1))).getD 0 0) = ((s.data.toList.drop (k + 1)).getD 0 0) := by
      rw [List.getD_eq_getElem?_getD, List.getD_eq_getElem?_getD, List.getElem?_take, if_pos (by omega)]
    have e1 := getD_drop s (k + 1) 0
    rw [Nat.add_zero] at e1
    rw [e]
    simp only [Bool.and_eq_true, decide_eq_true_eq, Bool.not_eq_true', Bool.and_eq_false_iff, beq_eq_false_iff_ne, bne_eq_false_iff_eq]
    rw [← e1]
    constructor
    · rintro ⟨_, h2⟩
      exact ⟨h1, fun ⟨a, b⟩ => h2.elim (fun x => x (by omega)) (fun x => b (by omega))⟩
    · rintro ⟨_, h2⟩
      refine ⟨by omega, ?_⟩
      by_cases hx : j - (k + 1) = 1
      · right
        apply Classical.byContradiction
        intro hy
        exact h2 ⟨by omega, by omega⟩
      · left; exact hx
  · constructor
    · intro h2
      simp only [Bool.and_eq_true, decide_eq_true_eq] at h2
      omega
    · rintro ⟨h2, _⟩; exact absurd h2 h1

theorem seq_skip {s : ByteArray} {k j : Nat} (h : k < s.size) (hst : Stop dig s (k + 1) j) (hn : ¬ (k + 1 < j ∧ ¬ (j = k + 2 ∧ byt s (k + 1) ≠ 48))) :
    seqL (s.data.toList.drop k) = seqL (s.data.toList.drop (k + 1)) := by
  rw [seq_step h hst]
  have : keepL ((s.data.toList.drop (k + 1)).take (j - (k + 1))) = false := by
    rw [← Bool.not_eq_true]; exact fun x => hn ((keep_iff hst).1 x)
  simp [seqAt, this]

theorem seq_take {s : ByteArray} {k j : Nat} (h : k < s.size) (h36 : byt s k = 36) (hst : Stop dig s (k + 1) j) (hy : k + 1 < j ∧ ¬ (j = k + 2 ∧ byt s (k + 1) ≠ 48)) :
    seqL (s.data.toList.drop k) = (s.extract k j).data.toList ++ [59] ++ seqL (s.data.toList.drop (k + 1)) := by
  rw [seq_step h hst]
  have hkp := (keep_iff hst).2 hy
  rw [byt_at s k h] at h36
  have e36 : (s[k].toNat == 36) = true := by simp; omega
  rw [ext_list, drop_cons s k h, show j - k = (j - (k + 1)) + 1 from by omega]
  simp [seqAt, hkp, e36]

end Go.Proofs.Qxb6603356a
