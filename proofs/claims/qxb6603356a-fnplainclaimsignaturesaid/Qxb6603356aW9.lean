import Derived.Test.Qxb6603356aW8
namespace Go.Proofs.Qxb6603356a
open Go.RowKit

theorem l_size : (litAt Try.f37 5).size + (litAt Try.f37 6).size + (litAt Try.f36 5).size + (litAt Try.f36 6).size ≤ 65536 ∧
    (litAt Try.f32 4).size + (litAt Try.f32 5).size + (litAt Try.f33 4).size + (litAt Try.f33 5).size + (litAt Try.f34 5).size + (litAt Try.f34 6).size + (litAt Try.f35 4).size + (litAt Try.f35 5).size ≤ 65536 ∧
    (litAt Try.f30 6).size + (litAt Try.f30 8).size + (litAt Try.f30 9).size + (litAt Try.f30 12).size + (litAt Try.f30 16).size + (litAt Try.f30 24).size + (litAt Try.f30 25).size + (litAt Try.f30 26).size + (litAt Try.f30 30).size + (litAt Try.f30 33).size ≤ 65536 := by decide +kernel

theorem wrap_size (f : Func) (i j : Nat) (c : ByteArray) : (wrapT f i j c).size = (litAt f i).size + c.size + (litAt f j).size := by
  unfold wrapT; simp only [ByteArray.size_append]

def anyT (f g : Func) (i : ByteArray) : ByteArray := litAt f 5 ++ wrapT g 5 6 i ++ litAt f 6

set_option maxRecDepth 100000 in
set_option maxHeartbeats 1000000 in
theorem anyInLine_any (p r i o : ByteArray) (q : Bool) (w : World) (h : i.size ≤ 524288) :
    Calls Try.prog 36 #[.agg #[.string p, .string r, .string i, .string o, .bool q]] w fun e w' => e = .returned (.string (anyT Try.f36 Try.f37 i)) ∧ ∀ W, Grown W w → Grown W w' := by
  have hl := l_size.1
  have hz : (wrapT Try.f37 5 6 i).size ≤ 1048576 := by rw [wrap_size]; omega
  clear hl
  obtain ⟨T, hT⟩ : ∃ T, T = wrapT Try.f37 5 6 i := ⟨_, rfl⟩
  rw [← hT] at hz
  have HT : Hid (T = wrapT Try.f37 5 6 i) := hT
  clear hT
  go_enter Try.func36, Try.ntmps36
  go_wp2_with (go_at_call 37; refine (inLineIn_any p r i o q _ (by omega)).mono ?_; rintro e w' ⟨he, rfl⟩; rw [← HT.out] at he; subst he)
  go_ret
  refine ⟨by unfold anyT; rw [← HT.out]; kernel_rfl, fun W hW => (hW.alloc _ _).alloc _ _⟩

theorem dueJobs_T (c : ByteArray) (w : World) (h : c.size ≤ 131072) :
    Calls Try.prog 32 #[.string c] w fun e w' => ∃ T, e = .returned (.string T) ∧ T.size ≤ 196608 ∧ Hid (T = wrapT Try.f32 4 5 c) ∧ w = w' := by
  have hl := l_size.2.1
  refine (dueJobs_any c w (by omega)).mono ?_
  rintro e w' ⟨rfl, rfl⟩
  exact ⟨_, rfl, by rw [wrap_size]; omega, rfl, rfl⟩

theorem firstOfItsKey_T (c : ByteArray) (w : World) (h : c.size ≤ 131072) :
    Calls Try.prog 33 #[.string c] w fun e w' => ∃ T, e = .returned (.string T) ∧ T.size ≤ 196608 ∧ Hid (T = wrapT Try.f33 4 5 c) ∧ w = w' := by
  have hl := l_size.2.1
  refine (firstOfItsKey_any c w (by omega)).mono ?_
  rintro e w' ⟨rfl, rfl⟩
  exact ⟨_, rfl, by rw [wrap_size]; omega, rfl, rfl⟩

theorem takenRows_T (c : ByteArray) (w : World) (h : c.size ≤ 131072) :
    Calls Try.prog 35 #[.string c] w fun e w' => ∃ T, e = .returned (.string T) ∧ T.size ≤ 196608 ∧ Hid (T = wrapT Try.f35 4 5 c) ∧ w = w' := by
  have hl := l_size.2.1
  refine (takenRows_any c w (by omega)).mono ?_
  rintro e w' ⟨rfl, rfl⟩
  exact ⟨_, rfl, by rw [wrap_size]; omega, rfl, rfl⟩

theorem anyInLine_T (p r i o : ByteArray) (q : Bool) (w : World) (h : i.size ≤ 131072) :
    Calls Try.prog 36 #[.agg #[.string p, .string r, .string i, .string o, .bool q]] w fun e w' => ∃ T, e = .returned (.string T) ∧ T.size ≤ 196608 ∧ Hid (T = anyT Try.f36 Try.f37 i) ∧ ∀ W, Grown W w → Grown W w' := by
  have hl := l_size.1
  refine (anyInLine_any p r i o q w (by omega)).mono ?_
  rintro e w' ⟨rfl, hg⟩
  exact ⟨_, rfl, by unfold anyT; simp only [ByteArray.size_append, wrap_size]; omega, rfl, hg⟩

theorem ret_same {a b : ByteArray} (h : a = b) : Ending.returned (.string a) = .returned (.string b) := by rw [h]

theorem takeChosen_T (p r i o : ByteArray) (q : Bool) (w : World) (h : p.size ≤ 131072) :
    Calls Try.prog 34 #[.agg #[.string p, .string r, .string i, .string o, .bool q]] w fun e w' => ∃ T, e = .returned (.string T) ∧ T.size ≤ 196608 ∧ Hid (T = wrapT Try.f34 5 6 p) ∧ w' = w.alloc (.cells #[.string p, .string r, .string i, .string o, .bool q] 41) := by
  have hl := l_size.2.1
  refine (takeChosen_any p r i o q w (by omega)).mono ?_
  rintro e w' ⟨rfl, rfl⟩
  exact ⟨_, rfl, by rw [wrap_size]; omega, rfl, rfl⟩

theorem cat_le {a b : ByteArray} (ha : a.size ≤ 65536) (hb : b.size ≤ 4096) : (a ++ b).size ≤ 131072 := by
  rw [ByteArray.size_append]; omega

def withT (f g h k : Func) (n r p : ByteArray) : ByteArray :=
  litAt f 8 ++ wrapT g 4 5 (litAt f 6 ++ r) ++ litAt f 9 ++ wrapT h 4 5 n ++ litAt f 12 ++ wrapT k 5 6 p ++ litAt f 16

/-- w with draws made and blocks of cells laid behind it. -/
def more (w : World) : List (Option (Array Value × TypeId)) → World
  | [] => w
  | none :: l => more w.drew l
  | some x :: l => more (w.alloc (.cells x.1 x.2)) l

theorem more_below : ∀ (l : List (Option (Array Value × TypeId))) (w : World) (B : Nat), B ≤ w.heap.size → Below B w (more w l)
  | [], _, _, _ => Below.refl _ _
  | none :: l, w, B, h => (Below.refl B w).drew.trans (more_below l w.drew B h)
  | some x :: l, w, B, h => ((Below.refl B w).alloc h _).trans (more_below l (w.alloc (.cells x.1 x.2)) B (by simp; omega))

theorem more_cell (w : World) (l : List (Option (Array Value × TypeId))) (b o : Nat) (h : b < w.heap.size) : (more w l).cell? ⟨b, o, none⟩ = w.cell? ⟨b, o, none⟩ :=
  (more_below l w w.heap.size (Nat.le_refl _)).cell (p := ⟨b, o, none⟩) h

theorem more_grown {W : World} : ∀ (l : List (Option (Array Value × TypeId))) {w : World}, Grown W w → Grown W (more w l)
  | [], _, h => h
  | none :: l, _, h => more_grown l h.drew
  | some x :: l, _, h => more_grown l (h.alloc x.1 x.2)

theorem more_snoc : ∀ (l : List (Option (Array Value × TypeId))) (w : World) (c : Array Value) (t : TypeId), (more w l).alloc (.cells c t) = more w (l ++ [some (c, t)])
  | [], _, _, _ => rfl
  | none :: l, w, c, t => more_snoc l w.drew c t
  | some x :: l, w, c, t => more_snoc l (w.alloc (.cells x.1 x.2)) c t

theorem more_call_same {P : Program} {f : FuncId} {args : Array Value} {w : World} {l : List (Option (Array Value × TypeId))} {v : Value}
    (h : Calls P f args (more w l) fun e w' => e = .returned v ∧ more w l = w') : Calls P f args (more w l) fun e w'' => e = .returned v ∧ ∃ k, w'' = more w k :=
  h.mono fun _ _ ⟨he, hw⟩ => ⟨he, l, hw.symm⟩

theorem more_call_new {P : Program} {f : FuncId} {args : Array Value} {w : World} {l : List (Option (Array Value × TypeId))} {v : Value} {c : Array Value} {t : TypeId}
    (h : Calls P f args (more w l) fun e w' => e = .returned v ∧ w' = (more w l).alloc (.cells c t)) : Calls P f args (more w l) fun e w'' => e = .returned v ∧ ∃ k, w'' = more w k :=
  h.mono fun _ _ ⟨he, hw⟩ => ⟨he, l ++ [some (c, t)], by rw [hw, more_snoc]⟩

def claimT (f g h k m a b : Func) (n u p r i : ByteArray) (q : Bool) : ByteArray :=
  if q then withT f g h k n r p ++ litAt f 24 ++ litAt f 25 ++ litAt f 26 ++ anyT a b i ++ litAt f 30 ++ wrapT m 4 5 u ++ litAt f 33
  else withT f g h k n r p ++ wrapT m 4 5 u

theorem with_size (r p : ByteArray) (hp : p.size ≤ 4096) (hr : r.size ≤ 4096) : (withT Try.f30 Try.f32 Try.f33 Try.f34 ⟨#[110, 101, 120, 116]⟩ r p).size ≤ 262144 := by
  have hl := l_size
  have h4 : (⟨#[110, 101, 120, 116]⟩ : ByteArray).size = 4 := rfl
  unfold withT
  simp only [ByteArray.size_append, wrap_size]
  omega

set_option maxRecDepth 100000 in
set_option maxHeartbeats 1000000 in
theorem plainClaim_any (p r i o : ByteArray) (q : Bool) (w : World) (hp : p.size ≤ 4096) (hr : r.size ≤ 4096) (hi : i.size ≤ 4096) :
    Calls Try.prog 30 #[.agg #[.string p, .string r, .string i, .string o, .bool q]] w fun e w' => e = .returned (.string (claimT Try.f30 Try.f32 Try.f33 Try.f34 Try.f35 Try.f36 Try.f37 ⟨#[110, 101, 120, 116]⟩ ⟨#[116, 97, 107, 101, 110]⟩ p r i q)) ∧ Grown w w' := by
  go_enter Try.func30, Try.ntmps30
  go_wp2
  obtain ⟨B, hB⟩ : ∃ B, B = w.heap.size := ⟨_, rfl⟩
  obtain ⟨w1, hw1⟩ : ∃ w1, w1 = w.alloc (.cells #[.string p, .string r, .string i, .string o, .bool q] 41) := ⟨_, rfl⟩
  have c0 : w1.cell? ⟨B, 0, none⟩ = some (.string p) := by rw [hw1, hB]; simp [go_sem]
  have c1 : w1.cell? ⟨B, 1, none⟩ = some (.string r) := by rw [hw1, hB]; simp [go_sem]
  have c2 : w1.cell? ⟨B, 2, none⟩ = some (.string i) := by rw [hw1, hB]; simp [go_sem]
  have c3 : w1.cell? ⟨B, 3, none⟩ = some (.string o) := by rw [hw1, hB]; simp [go_sem]
  have c4 : w1.cell? ⟨B, 4, none⟩ = some (.bool q) := by rw [hw1, hB]; simp [go_sem]
  have hBs : B < w1.heap.size := by rw [hw1, hB]; simp
  have HG : Hid (Grown w w1) := by rw [hw1]; exact (Grown.refl w).alloc _ _
  rw [← hw1, ← hB]
  clear hB hw1
  have m0 : ∀ l, (more w1 l).cell? ⟨B, 0, none⟩ = some (.string p) := fun l => (more_cell w1 l B 0 hBs).trans c0
  have m1 : ∀ l, (more w1 l).cell? ⟨B, 1, none⟩ = some (.string r) := fun l => (more_cell w1 l B 1 hBs).trans c1
  have m2 : ∀ l, (more w1 l).cell? ⟨B, 2, none⟩ = some (.string i) := fun l => (more_cell w1 l B 2 hBs).trans c2
  have m3 : ∀ l, (more w1 l).cell? ⟨B, 3, none⟩ = some (.string o) := fun l => (more_cell w1 l B 3 hBs).trans c3
  have m4 : ∀ l, (more w1 l).cell? ⟨B, 4, none⟩ = some (.bool q) := fun l => (more_cell w1 l B 4 hBs).trans c4
  obtain ⟨T1, hT1⟩ : ∃ T1, T1 = wrapT Try.f32 4 5 (litAt Try.f30 6 ++ r) := ⟨_, rfl⟩
  obtain ⟨T2, hT2⟩ : ∃ T2, T2 = wrapT Try.f33 4 5 ⟨#[110, 101, 120, 116]⟩ := ⟨_, rfl⟩
  obtain ⟨T3, hT3⟩ : ∃ T3, T3 = wrapT Try.f34 5 6 p := ⟨_, rfl⟩
  have hl := l_size
  have s6 : (litAt Try.f30 6 ++ r).size ≤ 131072 := by rw [ByteArray.size_append]; omega
  have d1 : Hid (∀ w : World, Calls Try.prog 32 #[.string (litAt Try.f30 6 ++ r)] w fun e w' => e = .returned (.string T1) ∧ w = w') := by
    rw [hT1]; exact fun w => dueJobs_any _ w (by omega)
  have d2 : Hid (∀ w : World, Calls Try.prog 33 #[.string ⟨#[110, 101, 120, 116]⟩] w fun e w' => e = .returned (.string T2) ∧ w = w') := by
    rw [hT2]; exact fun w => firstOfItsKey_any _ w (by decide)
  have d3 : Hid (∀ w : World, Calls Try.prog 34 #[.agg #[.string p, .string r, .string i, .string o, .bool q]] w fun e w' => e = .returned (.string T3) ∧ w' = w.alloc (.cells #[.string p, .string r, .string i, .string o, .bool q] 41)) := by
    rw [hT3]; exact fun w => takeChosen_any p r i o q w (by omega)
  have t1 : T1.size ≤ 262144 := by rw [hT1, wrap_size]; omega
  have t2 : T2.size ≤ 262144 := by rw [hT2, wrap_size]; have : (⟨#[110, 101, 120, 116]⟩ : ByteArray).size = 4 := rfl; omega
  have t3 : T3.size ≤ 262144 := by rw [hT3, wrap_size]; omega
  have HT : Hid (T1 = wrapT Try.f32 4 5 (litAt Try.f30 6 ++ r) ∧ T2 = wrapT Try.f33 4 5 ⟨#[110, 101, 120, 116]⟩ ∧ T3 = wrapT Try.f34 5 6 p) := ⟨hT1, hT2, hT3⟩
  clear hT1 hT2 hT3 hl s6
  go_cut [3] (fun v wr => ∃ W : ByteArray, v = .string W ∧ Hid (W = withT Try.f30 Try.f32 Try.f33 Try.f34 ⟨#[110, 101, 120, 116]⟩ r p) ∧ Grown w wr ∧ wr.cell? ⟨B, 0, none⟩ = some (.string p) ∧ wr.cell? ⟨B, 1, none⟩ = some (.string r) ∧ wr.cell? ⟨B, 2, none⟩ = some (.string i) ∧ wr.cell? ⟨B, 3, none⟩ = some (.string o) ∧ wr.cell? ⟨B, 4, none⟩ = some (.bool q))
  case first =>
    refine wp_region_quiet (C := fun w' => ∃ l, w' = more w1 l) (by kernel_rfl) (by kernel_rfl) ⟨[none], rfl⟩ ?_
    quiet_step (fail)
    quiet_step (fail)
    quiet_step ((rw [if_neg (by omega)]; exact ⟨rfl, rfl⟩))
    quiet_step (exact more_call_same (d1.out _))
    quiet_step ((rw [if_neg (by omega)]; exact ⟨rfl, rfl⟩))
    quiet_step ((rw [if_neg (by omega)]; exact ⟨rfl, rfl⟩))
    quiet_step (exact more_call_same (d2.out _))
    quiet_step ((rw [if_neg (by omega)]; exact ⟨rfl, rfl⟩))
    quiet_step ((rw [if_neg (by omega)]; exact ⟨rfl, rfl⟩))
    quiet_step (fail)
    quiet_step (exact more_call_new (d3.out _))
    quiet_step ((rw [if_neg (by omega)]; exact ⟨rfl, rfl⟩))
    quiet_step ((rw [if_neg (by omega)]; exact ⟨rfl, rfl⟩))
    quiet_step (fail)
    refine wpQuiet_nil ?_
    rintro w2 ⟨l, hw2⟩
    have z0 : w2.cell? ⟨B, 0, none⟩ = some (.string p) := by rw [hw2]; exact m0 l
    have z1 : w2.cell? ⟨B, 1, none⟩ = some (.string r) := by rw [hw2]; exact m1 l
    have z2 : w2.cell? ⟨B, 2, none⟩ = some (.string i) := by rw [hw2]; exact m2 l
    have z3 : w2.cell? ⟨B, 3, none⟩ = some (.string o) := by rw [hw2]; exact m3 l
    have z4 : w2.cell? ⟨B, 4, none⟩ = some (.bool q) := by rw [hw2]; exact m4 l
    have hg : Grown w w2 := by rw [hw2]; exact more_grown l HG.out
    clear m0 m1 m2 m3 m4 c0 c1 c2 c3 c4 hw2 d1 d2 d3
    go_wp2
    go_meet
    case rel => exact ⟨_, rfl, by unfold Hid; rw [HT.out.1, HT.out.2.1, HT.out.2.2]; kernel_rfl, hg, z0, z1, z2, z3, z4⟩
  case rest =>
    clear m0 m1 m2 m3 m4 c0 c1 c2 c3 c4 d1 d2 d3 HT t1 t2 t3 HG
    obtain ⟨W, rfl, HW, hg, z0, z1, z2, z3, z4⟩ := hcut
    have hWs : W.size ≤ 262144 := by rw [HW.out]; exact with_size r p hp hr
    cases q
    · go_wp2_with (go_at_call 35; refine (takenRows_T _ _ ?_).mono ?_; decide; rintro e w' ⟨T4, rfl, s4, H4, rfl⟩)
      go_ret
      exact ⟨ret_same (by rw [HW.out, H4.out]; rfl), hg⟩
    · go_wp2_with fail
      refine (anyInLine_T p r i o true _ (by omega)).mono ?_
      rintro e w3 ⟨T5, rfl, s5, H5, hgw⟩
      have hg : Grown w w3 := hgw w hg
      clear hgw z0 z1 z2 z3 z4
      go_wp2_with (go_at_call 35; refine (takenRows_T _ _ ?_).mono ?_; decide; rintro e w' ⟨T4, rfl, s4, H4, rfl⟩)
      go_ret
      exact ⟨ret_same (by rw [HW.out, H4.out, H5.out]; kernel_rfl), hg⟩

set_option maxRecDepth 100000 in
set_option maxHeartbeats 1000000 in
theorem zzPlain_any (p r i o : ByteArray) (q : Bool) (w : World) (hp : p.size ≤ 4096) (hr : r.size ≤ 4096) (hi : i.size ≤ 4096) :
    Calls Try.prog 20 #[.string p, .string r, .string i, .string o, .bool q] w fun e w' => e = .returned (.string (claimT Try.f30 Try.f32 Try.f33 Try.f34 Try.f35 Try.f36 Try.f37 ⟨#[110, 101, 120, 116]⟩ ⟨#[116, 97, 107, 101, 110]⟩ p r i q)) ∧ Grown w w' := by
  go_enter Try.func20, Try.ntmps20
  go_wp2_with (go_at_call 30; refine (plainClaim_any p r i o q _ hp hr hi).mono ?_; rintro e w' ⟨rfl, hg⟩)
  go_ret
  exact ⟨rfl, hg⟩

end Go.Proofs.Qxb6603356a
