import Derived.Test.Qxb6603247aP2
import Derived.Deep.DeepCutAuto
import Derived.Deep.CutBlock
import Derived.WalkSpells
namespace Go.Proofs.Qxb6603247a
open Go.RowKit

/-- The twenty cells of the buffer. -/
def Buf (w : World) (b : Nat) (g : Nat → Int) : Prop := ∀ i, i < 20 → w.cell? ⟨b, i, none⟩ = some (.int .u8 (g i)) ∧ w.frozen? ⟨b, i, none⟩ = false

theorem neg_u64 (v : Int) (h1 : -9223372036854775808 ≤ v) (hv : decide (v < 0) = true) : IntKind.u64.wrap (-IntKind.u64.wrap v) = mag true v := by
  have : v < 0 := by simpa using hv
  rw [IntKind.wrap_u64, IntKind.wrap_u64]; unfold mag; simp; omega

theorem pos_u64 (v : Int) (h2 : v ≤ 9223372036854775807) (hv : decide (v < 0) = false) : IntKind.u64.wrap v = mag false v := by
  have : ¬ v < 0 := by simpa using hv
  rw [IntKind.wrap_u64]; unfold mag; simp; omega

/-- The text from place k on. -/
def strOf (G : Nat → Int) (k : Nat) : ByteArray := ⟨((List.range (20 - k)).map fun j => UInt8.ofNat (G (k + j)).toNat).toArray⟩

theorem arr40 : Try.prog.arrayLen 40 = 20 := by kernel_rfl
theorem el40 : Try.prog.elem 40 = 5 := by kernel_rfl

theorem slice_run (B k : Nat) (hk : k ≤ 19) (w : World) :
    (Instr.sliceAt 40 (.pointer (some ⟨B, 0, none⟩)) (some (.int .i64 (k : Int))) none none).run Try.prog w = .ok (.slice (some ⟨B, k, none⟩) (20 - k) (20 - k)) w := by
  have h := run_sliceAt_array_l (P := Try.prog) w 40 ⟨B, 0, none⟩ (by kernel_rfl) .i64 (k : Int) (by omega) (by rw [arr40]; omega)
  rw [h, arr40, el40]
  have hz : (sizeOf 5).run Try.prog w = .ok 1 w := by kernel_rfl
  rw [hz]
  simp [Result.andThen, slicedAt, Addr.add, show ¬ 20 = k from by omega]
  exact fun h => h.symm

theorem foldl_push (ns : List Int) : ∀ s : ByteArray, ns.foldl (fun r n => r.push (UInt8.ofNat n.toNat)) s = ⟨s.data ++ (ns.map fun n => UInt8.ofNat n.toNat).toArray⟩ := by
  induction ns with
  | nil => intro s; simp
  | cons n ns ih =>
    intro s
    simp only [List.foldl_cons, ih, List.map_cons]
    congr 1
    simp [ByteArray.push]

theorem add_at (B k j : Nat) : (⟨B, k, none⟩ : Addr).add j = ⟨B, k + j, none⟩ := by
  unfold Addr.add
  split <;> simp_all

theorem conv_run (B k : Nat) (hk : k ≤ 19) (w : World) (G : Nat → Int) (hb : Buf w B G) :
    (convert 41 9 (.slice (some ⟨B, k, none⟩) (20 - k) (20 - k))).run Try.prog w = .ok (.string (strOf G k)) w := by
  rw [run_convert_bytes_string w 41 9 5 _ _ _ Try.underlying41 Try.underlying5 Try.underlying9]
  have h := run_loadCells (P := Try.prog) w ⟨B, k, none⟩ (20 - k) (fun j => .int .u8 (G (k + j))) (fun j hj => by rw [add_at]; exact (hb (k + j) (by omega)).1)
  have h2 : (List.map (fun j => Value.int .u8 (G (k + j))) (List.range (20 - k))) = ((List.range (20 - k)).map fun j => G (k + j)).map (Value.int .u8) := by simp [List.map_map, Function.comp_def]
  rw [h2] at h
  rw [run_bytesToString w _ _ _ _ h, foldl_push]
  simp [strOf, List.map_map, Function.comp_def]

theorem buf_set {w : World} {b : Nat} {g : Nat → Int} (h : Buf w b g) (k : Nat) (hk : k < 20) (c : Int) : Buf (w.setCell ⟨b, k, none⟩ (.int .u8 c)) b (upd g k c) := by
  intro i hi
  obtain ⟨h1, h2⟩ := h i hi
  obtain ⟨h3, h4⟩ := h k hk
  by_cases e : i = k
  · subst e
    rw [upd_at]
    exact ⟨by simp [go_sem, *], by simp [go_sem, *]⟩
  · rw [upd_other _ _ e]
    exact ⟨by simp [go_sem, *], by simp [go_sem, *]⟩

theorem byt_strOf (G : Nat → Int) (k r : Nat) (hr : r < 20 - k) (hG : 0 ≤ G (k + r) ∧ G (k + r) ≤ 255) : byt (strOf G k) r = G (k + r) := by
  unfold byt strOf
  rw [List.getD_eq_getElem?_getD]
  simp [hr]
  omega

theorem size_strOf (G : Nat → Int) (k : Nat) : (strOf G k).size = 20 - k := by
  simp [strOf, ByteArray.size]

def off (t : Bool) : Nat := if t then 1 else 0

/-- D is the decimal text of v: m digits, behind a sign if t. -/
structure Dec (v : Int) (D : ByteArray) (m : Nat) (t : Bool) : Prop where
  neg : decide (v < 0) = t
  m1 : 1 ≤ m
  m19 : m ≤ 19
  size : D.size = off t + m
  sign : t = true → byt D 0 = 45
  digs : ∀ r, r < m → dig (byt D (off t + r)) = true
  val : num D (off t) m = mag t v
  lead : 1 < m → byt D (off t) ≠ 48

theorem dig_range {c : Int} (h : dig c = true) : 0 ≤ c ∧ c ≤ 255 := by have := (dig_iff _).1 h; omega

theorem dec_pos {v U X : Int} {k : Nat} {g G : Nat → Int} (ht : decide (v < 0) = false) (hU : U = mag false v) (hG : G = upd g k (48 + X % 10)) (h : Rd U k X g) (u0 : 0 ≤ U) (hx : k = 19 ∨ 0 < X) (hq : X / 10 = 0) (hk : k ≤ 19) (hk1 : 1 ≤ k) :
    Dec v (strOf G k) (20 - k) false := by
  have hall : ∀ r, r < 20 - k → byt (strOf G k) r = G (k + r) := fun r hr => byt_strOf G k r hr (dig_range (by rw [hG]; exact rd_all h (k + r) (by omega) (by omega)))
  refine ⟨ht, by omega, by omega, by rw [size_strOf]; simp [off], fun h => absurd h (by simp), fun r hr => ?_, ?_, fun hm => ?_⟩
  · simp only [off, Bool.false_eq_true, if_false, Nat.zero_add]
    rw [hall r hr, hG]; exact rd_all h (k + r) (by omega) (by omega)
  · rw [num_numf, ← hU, ← rd_end h hk u0 hq, ← hG]
    exact numf_congr _ fun r hr => by simp only [off, Bool.false_eq_true, if_false, Nat.zero_add]; exact hall r hr
  · simp only [off, Bool.false_eq_true, if_false]
    rw [hall 0 (by omega), Nat.add_zero, hG, upd_at]
    have := rd_nonneg h u0
    omega

theorem dec_neg {v U X : Int} {k : Nat} {g G : Nat → Int} (ht : decide (v < 0) = true) (hU : U = mag true v) (hG : G = upd g (k + 1) (48 + X % 10)) (h : Rd U (k + 1) X g) (u0 : 0 ≤ U) (hx : k + 1 = 19 ∨ 0 < X) (hq : X / 10 = 0) (hk : k + 1 ≤ 19) :
    Dec v (strOf (upd G k 45) k) (19 - k) true := by
  have hall : ∀ r, r < 19 - k → byt (strOf (upd G k 45) k) (1 + r) = G (k + 1 + r) := fun r hr => by
    have e : upd G k 45 (k + (1 + r)) = G (k + 1 + r) := by rw [upd_other _ _ (by omega)]; congr 1; omega
    rw [byt_strOf (upd G k 45) k (1 + r) (by omega) (by rw [e]; exact dig_range (by rw [hG]; exact rd_all h (k + 1 + r) (by omega) (by omega))), e]
  refine ⟨ht, by omega, by omega, by rw [size_strOf]; simp [off]; omega, fun _ => ?_, fun r hr => ?_, ?_, fun hm => ?_⟩
  · rw [byt_strOf _ k 0 (by omega) (by rw [Nat.add_zero, upd_at]; omega), Nat.add_zero, upd_at]
  · simp only [off, if_true]
    rw [hall r hr, hG]; exact rd_all h (k + 1 + r) (by omega) (by omega)
  · have h2 := rd_end h hk u0 hq
    rw [num_numf, ← hU, ← h2, ← hG, show 20 - (k + 1) = 19 - k from by omega]
    exact numf_congr _ fun r hr => by simp only [off, if_true]; exact hall r hr
  · simp only [off, if_true]
    have h3 := hall 0 (by omega)
    rw [Nat.add_zero, Nat.add_zero] at h3
    rw [h3, hG, upd_at]
    have := rd_nonneg h u0
    omega

theorem buf_new (w : World) : Buf (w.alloc (.cells #[.int .u8 0, .int .u8 0, .int .u8 0, .int .u8 0, .int .u8 0, .int .u8 0, .int .u8 0, .int .u8 0, .int .u8 0, .int .u8 0, .int .u8 0, .int .u8 0, .int .u8 0, .int .u8 0, .int .u8 0, .int .u8 0, .int .u8 0, .int .u8 0, .int .u8 0, .int .u8 0] 40)) w.heap.size (fun _ => 0) := by
  intro i hi
  refine ⟨?_, ?_⟩
  · have : i = 0 ∨ i = 1 ∨ i = 2 ∨ i = 3 ∨ i = 4 ∨ i = 5 ∨ i = 6 ∨ i = 7 ∨ i = 8 ∨ i = 9 ∨ i = 10 ∨ i = 11 ∨ i = 12 ∨ i = 13 ∨ i = 14 ∨ i = 15 ∨ i = 16 ∨ i = 17 ∨ i = 18 ∨ i = 19 := by omega
    rcases this with h | h | h | h | h | h | h | h | h | h | h | h | h | h | h | h | h | h | h | h <;> subst h <;> simp [go_sem]
  · simp [go_sem]

set_option maxRecDepth 100000 in
set_option maxHeartbeats 1000000 in
theorem decimal_t (v : Int) (t : Bool) (w : World) (h1 : -9223372036854775808 ≤ v) (h2 : v ≤ 9223372036854775807) (ht : decide (v < 0) = t) :
    Calls Try.prog 22 #[.int .i64 v] w fun e w' => ∃ (D : ByteArray) (m : Nat), e = .returned (.string D) ∧ Dec v D m t ∧ Grown w w' := by
  go_enter Try.func22, Try.ntmps22
  go_upto_if 11 with fail
  go_cut [3] (fun x wr => x = .int .u64 (mag t v) ∧ w = wr)
  case first =>
    cases t
    · go_wp2_with fail
      go_meet
      case rel => exact ⟨by rw [← pos_u64 v h2 ht], rfl⟩
    · go_wp2_with fail
      go_meet
      case rel => exact ⟨by rw [← neg_u64 v h1 ht], rfl⟩
  case rest =>
    obtain ⟨rfl, rfl⟩ := hcut
    go_upto_block 0 with fail
    obtain ⟨U, hU⟩ : ∃ U, U = mag t v := ⟨_, rfl⟩
    rw [← hU]
    have HU : Hid (U = mag t v) := hU
    have u0 : 0 ≤ U := by rw [hU, ← ht]; unfold mag; split <;> simp_all; omega
    have u1 : U ≤ 9223372036854775808 := by rw [hU]; unfold mag; split <;> omega
    clear hU
    obtain ⟨B, hB⟩ : ∃ B, B = w.heap.size := ⟨_, rfl⟩
    obtain ⟨w1, hw1⟩ : ∃ w1, w1 = w.alloc (.cells #[.int .u8 0, .int .u8 0, .int .u8 0, .int .u8 0, .int .u8 0, .int .u8 0, .int .u8 0, .int .u8 0, .int .u8 0, .int .u8 0, .int .u8 0, .int .u8 0, .int .u8 0, .int .u8 0, .int .u8 0, .int .u8 0, .int .u8 0, .int .u8 0, .int .u8 0, .int .u8 0] 40) := ⟨_, rfl⟩
    rw [← hw1, ← hB]
    have hbuf : Buf w1 B (fun _ => 0) := by rw [hw1, hB]; exact buf_new w
    have HK : Hid (Grown w w1) := by rw [hw1]; exact (Grown.refl w).alloc _ _
    have HBB : Hid (B = w.heap.size) := hB
    clear hB hw1
    go_cut [3, 6] (fun x i wr => ∃ (k : Nat) (X : Int) (g : Nat → Int), k ≤ 19 ∧ i = .int .i64 (k : Int) ∧ Rd U k X g ∧ (k = 19 ∨ 0 < X) ∧ X / 10 = 0 ∧ Buf wr B (upd g k (48 + X % 10)) ∧ Keeps B w1 wr)
    case first =>
      go_wp2_with fail
      go_loopg [3, 6] 19 (fun gk x i wr => ∃ (k : Nat) (X : Int) (g : Nat → Int), k ≤ 19 ∧ gk = k ∧ i = .int .i64 ((k : Int) + 1) ∧ x = .int .u64 X ∧ 0 ≤ X ∧ Rd U k X g ∧ (k = 19 ∨ 0 < X) ∧ Buf wr B g ∧ Keeps B w1 wr)
      case atStart => exact ⟨19, U, fun _ => 0, by omega, rfl, rfl, rfl, u0, rd_start _ _, Or.inl rfl, hbuf, Keeps.refl _ _⟩
      case round =>
        obtain ⟨k, X, g, hk, hgk, rfl, rfl, hX, hrd, hkx, hb, hkeep⟩ := hrel
        have HR : Hid (Rd U k X g ∧ (k = 19 ∨ 0 < X)) := ⟨hrd, hkx⟩
        have HB : Hid (Buf wr B g) := hb
        obtain ⟨hc, hf⟩ := hb k (by omega)
        clear hrd hkx hb hbuf
        have hdv : IntKind.u64.wrap (X.tdiv 10) = X / 10 := div_u64 hX (Int.le_trans (rd_le HR.out.1 u0) u1)
        have hk1 : 1 ≤ k := rd_k HR.out.1 u0 u1 HR.out.2
        cases hq : (X / 10 == 0)
        · go_wp2
          obtain ⟨k', rfl⟩ : ∃ k', k = k' + 1 := ⟨k - 1, by omega⟩
          have hq' : ¬ X / 10 = 0 := by simpa using hq
          go_roundg k'
          case measure => omega
          case rel => exact ⟨k', X / 10, _, by omega, rfl, by go_num, rfl, by omega, rd_step HR.out.1 hk, Or.inr (by omega), buf_set HB.out _ (by omega) _, hkeep.trans (Keeps.setCell _ _ _ _)⟩
        · go_wp2
          go_meet
          case rel => exact ⟨k, X, g, hk, rfl, HR.out.1, HR.out.2, by simpa using hq, buf_set HB.out _ (by omega) _, hkeep.trans (Keeps.setCell _ _ _ _)⟩
    case rest =>
      obtain ⟨k, X, g, hk, rfl, hrd, hkx, hq, hb, hkeep⟩ := hcut
      have HR : Hid (Rd U k X g ∧ (k = 19 ∨ 0 < X) ∧ X / 10 = 0) := ⟨hrd, hkx, hq⟩
      clear hrd hkx hq hbuf
      obtain ⟨G, hG⟩ : ∃ G : Nat → Int, G = upd g k (48 + X % 10) := ⟨_, rfl⟩
      rw [← hG] at hb
      have HG : Hid (G = upd g k (48 + X % 10)) := hG
      have HB : Hid (Buf wc B G) := hb
      have hk1 : 1 ≤ k := rd_k HR.out.1 u0 u1 HR.out.2.1
      clear hG
      cases t
      · have hsl := slice_run B k hk
        have hcv := conv_run B k hk wc G hb
        clear hb
        go_wp2
        go_ret
        exact ⟨_, _, rfl, dec_pos ht HU.out HG.out HR.out.1 u0 HR.out.2.1 HR.out.2.2 hk hk1, hkeep w (Nat.le_of_eq HBB.out.symm) HK.out⟩
      · obtain ⟨k', rfl⟩ : ∃ k', k = k' + 1 := ⟨k - 1, by omega⟩
        obtain ⟨hc, hf⟩ := hb k' (by omega)
        have hsl := slice_run B k' (by omega)
        have hcv := conv_run B k' (by omega) (wc.setCell ⟨B, k', none⟩ (.int .u8 45)) (upd G k' 45) (buf_set hb k' (by omega) 45)
        clear hb
        go_wp2
        go_ret
        exact ⟨_, _, rfl, dec_neg ht HU.out HG.out HR.out.1 u0 HR.out.2.1 HR.out.2.2 hk, (hkeep.trans (Keeps.setCell _ _ _ _)) w (Nat.le_of_eq HBB.out.symm) HK.out⟩

end Go.Proofs.Qxb6603247a
