import Derived.Test.Qxb6603247aW1
import Derived.RegionTactic
import Derived.BigRegion
import Derived.BigQuiet
import Derived.ChangeAlike
import Derived.OwnWalk
import Derived.Deep.LoopGhost
namespace Go.Proofs.Qxb6603247a
open Go.RowKit

/-- The reader at block b: her three cells. -/
structure Rdr (w : World) (b : Nat) (s : ByteArray) (p : Int) (f : Bool) : Prop where
  c0 : w.cell? ⟨b, 0, none⟩ = some (.string s)
  c1 : w.cell? ⟨b, 1, none⟩ = some (.int .i64 p)
  c2 : w.cell? ⟨b, 2, none⟩ = some (.bool f)
  z1 : w.frozen? ⟨b, 1, none⟩ = false
  z2 : w.frozen? ⟨b, 2, none⟩ = false

/-- Whatever has at most grown over W, whose blocks all lie below b, still has. -/
def Keeps (b : Nat) (w w' : World) : Prop := ∀ W : World, W.heap.size ≤ b → Grown W w → Grown W w'

theorem Keeps.refl (b : Nat) (w : World) : Keeps b w w := fun _ _ h => h
theorem Keeps.trans {b : Nat} {x y z : World} (h : Keeps b x y) (k : Keeps b y z) : Keeps b x z := fun W hW hg => k W hW (h W hW hg)
theorem Keeps.drewN (b : Nat) (w : World) (n : Nat) : Keeps b w (w.drewN n) := fun _ _ h => h
theorem Keeps.setCell (b o : Nat) (w : World) (v : Value) : Keeps b w (w.setCell ⟨b, o, none⟩ v) := fun _ hW h => h.setCell hW v

/-- The byte at i, as a number; 0 behind the end. -/
def byt (s : ByteArray) (i : Nat) : Int := ((s.data.toList.getD i 0).toNat : Int)

/-- k is where the run of bytes of kind P that begins at p ends. -/
structure Stop (P : Int → Bool) (s : ByteArray) (p k : Nat) : Prop where
  lo : p ≤ k
  hi : k ≤ s.size
  all : ∀ i, p ≤ i → i < k → P (byt s i) = true
  out : k < s.size → P (byt s k) = false

theorem byt_at (s : ByteArray) (k : Nat) (h : k < s.size) : byt s k = (s[k].toNat : Int) := by
  unfold byt
  have h' : k < s.data.toList.length := by simpa using h
  rw [List.getD_eq_getElem?_getD, List.getElem?_eq_getElem h']
  rfl

theorem all_step {P : Int → Bool} {s : ByteArray} {p k : Nat} (h : ∀ i, p ≤ i → i < k → P (byt s i) = true) (hk : P (byt s k) = true) : ∀ i, p ≤ i → i < k + 1 → P (byt s i) = true := by
  intro i h1 h2
  by_cases e : i = k
  · subst e; exact hk
  · exact h i h1 (by omega)

theorem Rdr.drewN {w : World} {b : Nat} {s : ByteArray} {p : Int} {f : Bool} (h : Rdr w b s p f) (n : Nat) : Rdr (w.drewN n) b s p f := ⟨h.c0, h.c1, h.c2, h.z1, h.z2⟩

theorem Rdr.setPos {w : World} {b : Nat} {s : ByteArray} {p : Int} {f : Bool} (h : Rdr w b s p f) (q : Int) : Rdr (w.setCell ⟨b, 1, none⟩ (.int .i64 q)) b s q f := by
  obtain ⟨h0, h1, h2, z1, z2⟩ := h
  refine ⟨?_, ?_, ?_, ?_, ?_⟩ <;> simp [go_sem, *]

theorem Rdr.setFailed {w : World} {b : Nat} {s : ByteArray} {p : Int} {f : Bool} (h : Rdr w b s p f) (g : Bool) : Rdr (w.setCell ⟨b, 2, none⟩ (.bool g)) b s p g := by
  obtain ⟨h0, h1, h2, z1, z2⟩ := h
  refine ⟨?_, ?_, ?_, ?_, ?_⟩ <;> simp [go_sem, *]

theorem Rdr.step {w : World} {b : Nat} {s : ByteArray} {k : Nat} {f : Bool} (h : Rdr w b s k f) (n : Nat) : Rdr ((w.setCell ⟨b, 1, none⟩ (.int .i64 ((k : Int) + 1))).drewN n) b s ((k + 1 : Nat) : Int) f := by
  have := (h.setPos ((k : Int) + 1)).drewN n
  rwa [show ((k + 1 : Nat) : Int) = (k : Int) + 1 from by omega]

theorem Keeps.step (b : Nat) (w : World) (v : Value) (n : Nat) : Keeps b w ((w.setCell ⟨b, 1, none⟩ v).drewN n) := (Keeps.setCell b 1 w v).trans (Keeps.drewN _ _ _)

set_option maxHeartbeats 400000 in
theorem state_any (s : ByteArray) (p : Int) (f : Bool) (b : Nat) (w : World) (h : Rdr w b s p f) :
    Calls Try.prog 11 #[.pointer (some ⟨b, 0, none⟩)] w fun e w' => e = .returned (.tuple #[.string s, .int .i64 p, .bool f]) ∧ ∃ n, w' = w.drewN n := by
  obtain ⟨h0, h1, h2, -, -⟩ := h
  go_enter Try.func11, Try.ntmps11
  go_wp2
  go_quiet (fail)
  go_wp2
  go_ret3
  exact ⟨rfl, _, rfl⟩

set_option maxHeartbeats 400000 in
theorem space_any (s : ByteArray) (p : Nat) (f : Bool) (b : Nat) (w : World) (hs : s.size ≤ maxLen) (hp : p ≤ s.size) (h : Rdr w b s p f) :
    Calls Try.prog 23 #[.pointer (some ⟨b, 0, none⟩)] w fun e w' => e = .returned (.tuple #[]) ∧ ∃ k : Nat, Stop wht s p k ∧ Rdr w' b s k f ∧ Keeps b w w' := by
  unfold maxLen at hs
  go_enter Try.func23, Try.ntmps23
  go_wp2
  go_loopg [] (s.size - p) (fun g wr => ∃ k : Nat, p ≤ k ∧ k ≤ s.size ∧ g = s.size - k ∧ (∀ i, p ≤ i → i < k → wht (byt s i) = true) ∧ Rdr wr b s k f ∧ Keeps b w wr)
  case atStart => exact ⟨p, Nat.le_refl _, hp, rfl, fun i h1 h2 => absurd h2 (by omega), h, Keeps.refl _ _⟩
  case round =>
    obtain ⟨k, hk1, hk2, hg, hall, ⟨h0, h1, h2, z1, z2⟩, hkeep⟩ := hrel
    by_cases hlt : k < s.size
    · have hb := byt_at s k hlt
      have HB : Hid (byt s k = (s[k].toNat : Int)) := hb
      have HR : Hid (Rdr wr b s k f) := ⟨h0, h1, h2, z1, z2⟩
      clear hb
      by_cases hw : wht (s[k].toNat : Int) = true
      · have hwc := hw
        unfold wht at hwc
        simp only [Bool.or_eq_true] at hwc
        have HW : Hid (wht (s[k].toNat : Int) = true) := hw
        clear hw
        go_wp2
        go_quiet (fail)
        go_wp2
        go_quiet (fail)
        go_wp2
        all_goals first | (exfalso; revert hwc; simp only [*]; decide) | skip
        all_goals
          go_roundg (s.size - (k + 1))
          case measure => omega
          case rel => exact ⟨k + 1, by omega, by omega, rfl, all_step hall (by rw [HB.out]; exact HW.out), HR.out.step _, hkeep.trans (Keeps.step _ _ _ _)⟩
      · have HW : Hid (wht (s[k].toNat : Int) = false) := by unfold Hid; simpa using hw
        have hwc := hw
        unfold wht at hwc
        clear hw
        simp only [Bool.or_eq_true, not_or] at hwc
        obtain ⟨⟨⟨e1, e2⟩, e3⟩, e4⟩ := hwc
        simp only [Bool.not_eq_true] at e1 e2 e3 e4
        go_wp2
        go_quiet (fail)
        go_wp2
        go_quiet (fail)
        go_wp2
        refine bodyPost_ret (results_none rfl _ _ _) rfl ?_
        exact ⟨rfl, k, ⟨hk1, hk2, hall, fun _ => by rw [HB.out]; exact HW.out⟩, HR.out.drewN _, hkeep.trans (Keeps.drewN _ _ _)⟩
    · have HR : Hid (Rdr wr b s k f) := ⟨h0, h1, h2, z1, z2⟩
      go_wp2
      go_quiet (fail)
      go_wp2
      go_end0
      exact ⟨rfl, k, ⟨hk1, hk2, hall, fun h => absurd h hlt⟩, HR.out.drewN _, hkeep.trans (Keeps.drewN _ _ _)⟩

end Go.Proofs.Qxb6603247a
