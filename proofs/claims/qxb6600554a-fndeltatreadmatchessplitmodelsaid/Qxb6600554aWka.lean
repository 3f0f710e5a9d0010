import Derived.Test.Qxb6600554aRows
import Derived.Test.Qxb6600554aPlainC
import Derived.WalkKit
import Derived.WalkSpells
import Derived.WalkLawsBesides
import Derived.Deep.QuietTactic
import Derived.BigQuiet
import Derived.RegionTactic
import Derived.Lib.MinMax
namespace Go.Proofs.Qxb6600554a
open Go.RowKit

theorem hide {p : Prop} (h : p) : Hid p := h

/-- The byte at i (0 beyond the end). -/
def bt (s : ByteArray) (i : Nat) : Nat := if h : i < s.size then s[i].toNat else 0
theorem bt_at (s : ByteArray) (i : Nat) (h : i < s.size) : bt s i = s[i].toNat := by unfold bt; rw [dif_pos h]
theorem bt_lt (s : ByteArray) (i : Nat) : bt s i < 256 := by
  unfold bt
  split
  · exact UInt8.toNat_lt _
  · decide

/-- The reader at block B, its text and its offset. -/
structure At (B : Nat) (s : ByteArray) (i : Nat) (w : World) : Prop where
  c0 : w.cell? ⟨B, 0, none⟩ = some (.string s)
  c1 : w.cell? ⟨B, 1, none⟩ = some (.int .i64 (i : Int))
  z1 : w.frozen? ⟨B, 1, none⟩ = false

/-- Nothing but block B has turned. -/
structure Same (B : Nat) (w w' : World) : Prop where
  os : w'.os = w.os
  tape : w'.tape = w.tape
  output : w'.output = w.output
  size : w'.heap.size = w.heap.size
  block : ∀ k, k ≠ B → w'.heap[k]? = w.heap[k]?

theorem Same.refl (B : Nat) (w : World) : Same B w w := ⟨rfl, rfl, rfl, rfl, fun _ _ => rfl⟩
theorem Same.trans {B : Nat} {a b c : World} (h : Same B a b) (k : Same B b c) : Same B a c :=
  ⟨k.os.trans h.os, k.tape.trans h.tape, k.output.trans h.output, k.size.trans h.size, fun x hx => (k.block x hx).trans (h.block x hx)⟩
theorem Same.drew {B : Nat} {a w : World} (h : Same B a w) : Same B a w.drew := ⟨h.os, h.tape, h.output, h.size, h.block⟩
theorem Same.drewN {B : Nat} {a w : World} (h : Same B a w) (n : Nat) : Same B a (w.drewN n) := ⟨h.os, h.tape, h.output, h.size, h.block⟩
theorem Same.set {B : Nat} {a w : World} (h : Same B a w) (o : Nat) (v : Value) : Same B a (w.setCell ⟨B, o, none⟩ v) :=
  ⟨h.os, h.tape, h.output, by rw [← h.size]; simp [World.setCell], fun k hk => by rw [Below.heap_setCell w ⟨B, o, none⟩ v k hk]; exact h.block k hk⟩
theorem Same.below {B : Nat} {w w' : World} (h : Same B w w') : Below B w w' := ⟨h.os, h.tape, h.output, Nat.le_of_eq h.size.symm, fun k hk => h.block k (by omega)⟩

theorem At.set {B : Nat} {s : ByteArray} {i : Nat} {w : World} (h : At B s i w) (j : Nat) (v : Int) (hv : v = (j : Int)) : At B s j (w.setCell ⟨B, 1, none⟩ (.int .i64 v)) :=
  ⟨by rw [World.cell?_setCell_other _ _ _ _ (by simp)]; exact h.c0, by rw [hv]; exact World.cell?_setCell_same _ _ _ h.c1, by rw [World.frozen?_setCell]; exact h.z1⟩
theorem At.drew {B : Nat} {s : ByteArray} {i : Nat} {w : World} (h : At B s i w) : At B s i w.drew := ⟨h.c0, h.c1, h.z1⟩
theorem At.drewN {B : Nat} {s : ByteArray} {i : Nat} {w : World} (h : At B s i w) (n : Nat) : At B s i (w.drewN n) := ⟨h.c0, h.c1, h.z1⟩

/-- What next hands back. -/
def NextSaid (B : Nat) (s : ByteArray) (i : Nat) (w : World) (e : Ending) (w' : World) : Prop :=
  Same B w w' ∧ (i = s.size ∧ e = .returned (.int .u8 0) ∧ At B s i w' ∨ i < s.size ∧ e = .returned (.int .u8 (bt s i : Int)) ∧ At B s (i + 1) w')

set_option maxRecDepth 100000 in
set_option maxHeartbeats 400000 in
theorem next43 (B : Nat) (s : ByteArray) (i : Nat) (w : World) (ha : At B s i w) (hi : i ≤ s.size) (hs : s.size ≤ 1048576) :
    Calls Try.prog 43 #[.pointer (some ⟨B, 0, none⟩)] w (NextSaid B s i w) := by
  obtain ⟨c0, c1, z1⟩ := ha
  by_cases h : i = s.size
  · have e1 : ((i : Int) == (s.size : Int)) = true := beq_iff_eq.2 (by omega)
    go_enter Try.func43, Try.ntmps43
    go_wp2
    go_quiet (fail)
    go_wp2
    go_ret
    exact ⟨(Same.refl _ _).drewN _, Or.inl ⟨h, rfl, c0, c1, z1⟩⟩
  · have e1 : ((i : Int) == (s.size : Int)) = false := beq_eq_false_iff_ne.2 (by omega)
    have hlt : i < s.size := by omega
    go_enter Try.func43, Try.ntmps43
    go_wp2
    go_quiet (fail)
    go_wp2
    go_quiet (fail)
    go_wp2
    go_ret
    exact ⟨((((Same.refl _ _).drewN _).set _ _).drewN _), Or.inr ⟨hlt, by rw [bt_at s i hlt]; rfl, ((At.drewN ⟨c0, c1, z1⟩ _).set (i + 1) _ (by omega)).drewN _⟩⟩

/-- What digits hands back. -/
def DigSaid (B : Nat) (s : ByteArray) (i : Nat) (w : World) (e : Ending) (w' : World) : Prop :=
  Same B w w' ∧ e = .returned (.tuple #[.int .i64 (Pl.sat (bt s) i (Pl.stop Pl.isDig (bt s) s.size i - i) : Int), .int .i64 ((Pl.stop Pl.isDig (bt s) s.size i - i : Nat) : Int)]) ∧ At B s (Pl.stop Pl.isDig (bt s) s.size i) w'

theorem dig_end (B : Nat) (s : ByteArray) (i j : Nat) (w wr : World) (j1 : i ≤ j) (j2 : j ≤ s.size) (hd : ∀ m, i ≤ m → m < j → Pl.isDig (bt s m) = true) (he : j = s.size ∨ Pl.isDig (bt s j) = false) (ha : At B s j wr) (hw : Same B w wr) :
    DigSaid B s i w (.returned (.tuple #[.int .i64 (Pl.sat (bt s) i (j - i) : Int), .int .i64 ((j : Int) - (i : Int))])) wr := by
  have e := Pl.stop_eq Pl.isDig (bt s) s.size i j j1 j2 hd he
  refine ⟨hw, ?_, ?_⟩
  · rw [e, show ((j - i : Nat) : Int) = (j : Int) - (i : Int) by omega]
  · rw [e]; exact ha

set_option maxRecDepth 100000 in
set_option maxHeartbeats 1000000 in
theorem digits51 (B : Nat) (s : ByteArray) (i : Nat) (w : World) (ha : At B s i w) (hi : i ≤ s.size) (hs : s.size ≤ 1048576) :
    Calls Try.prog 51 #[.pointer (some ⟨B, 0, none⟩)] w (DigSaid B s i w) := by
  obtain ⟨c0, c1, z1⟩ := ha
  go_enter Try.func51, Try.ntmps51
  go_wp2
  go_loopw [4] (fun n wr => ∃ j : Nat, i ≤ j ∧ j ≤ s.size ∧ n = .int .i64 (Pl.sat (bt s) i (j - i) : Int) ∧ (∀ m, i ≤ m → m < j → Pl.isDig (bt s m) = true) ∧ At B s j wr ∧ Same B w wr) (fun _ wr => s.size - (intOf ((wr.cell? ⟨B, 1, none⟩).getD .nilIface)).toNat)
  case atStart => exact ⟨i, Nat.le_refl _, hi, by simp [Pl.sat], fun m a b => by omega, ⟨c0, c1, z1⟩, Same.refl _ _⟩
  case round =>
    obtain ⟨j, j1, j2, rfl, hd, hat, hsame⟩ := hrel
    have HD := hide hd
    have HS := hide hsame
    have HA := hide hat
    obtain ⟨d0, d1, y1⟩ := hat
    clear hd hsame
    have hsat := Pl.sat_le (bt s) i (j - i)
    by_cases hlt : j < s.size
    · by_cases hdg : Pl.isDig (bt s j) = true
      · have hb := bt_at s j hlt
        have hdg' := hdg
        simp only [Pl.isDig, Bool.and_eq_true, decide_eq_true_eq, hb] at hdg'
        obtain ⟨g1, g2⟩ := hdg'
        have g1' : (48 : Int) ≤ (s[j].toNat : Int) := by omega
        have g2' : (s[j].toNat : Int) ≤ 57 := by omega
        have l1 : (j : Int) < (s.size : Int) := by omega
        have HG := hide hdg
        have HB := hide hb
        clear hdg hb
        go_wp2
        generalize hn0 : Pl.sat (bt s) i (j - i) = n0 at *
        have HN := hide hn0
        clear hn0
        go_quiet (fail)
        go_wp2
        go_quiet (fail)
        go_wp2
        go_roundw
        case rel =>
          refine ⟨j + 1, by omega, by omega, ?_, fun m a b => ?_, (HA.out.drewN _).set (j + 1) _ (by omega), (HS.out.drewN _).set _ _⟩
          · rw [show j + 1 - i = (j - i) + 1 by omega, Pl.sat, HN.out, show i + (j - i) = j by omega, HB.out]
            congr 1
            omega
          · by_cases e : m = j
            · rw [e]; exact HG.out
            · exact HD.out m a (by omega)
        case measure =>
          rw [World.cell?_setCell_same _ _ _ (by exact d1), d1]
          simp [intOf]
          omega
      · have hb := bt_at s j hlt
        have hdg' : ¬ (48 ≤ s[j].toNat ∧ s[j].toNat ≤ 57) := fun k => hdg (by simp only [Pl.isDig, Bool.and_eq_true, decide_eq_true_eq, hb]; exact k)
        have HG := hide hdg
        clear hdg hb
        have l1 : (j : Int) < (s.size : Int) := by omega
        by_cases g1 : 48 ≤ s[j].toNat
        · have g1' : (48 : Int) ≤ (s[j].toNat : Int) := by omega
          have g2' : ¬ ((s[j].toNat : Int) ≤ 57) := by omega
          go_wp2
          go_quiet (fail)
          go_wp2
          go_quiet (fail)
          go_wp2
          go_ret2
          refine dig_end B s i j w _ j1 j2 HD.out (Or.inr (by cases h : Pl.isDig (bt s j); rfl; exact absurd h HG.out)) ?_ ?_
          · first | exact HA.out.drewN _ | exact (HA.out.drewN _).drewN _
          · first | exact HS.out.drewN _ | exact (HS.out.drewN _).drewN _
        · have g1' : decide ((48 : Int) ≤ (s[j].toNat : Int)) = false := by simp; omega
          go_wp2
          go_quiet (fail)
          go_wp2
          go_quiet (fail)
          go_wp2
          go_ret2
          refine dig_end B s i j w _ j1 j2 HD.out (Or.inr (by cases h : Pl.isDig (bt s j); rfl; exact absurd h HG.out)) ?_ ?_
          · first | exact HA.out.drewN _ | exact (HA.out.drewN _).drewN _
          · first | exact HS.out.drewN _ | exact (HS.out.drewN _).drewN _
    · have l1 : decide ((j : Int) < (s.size : Int)) = false := by simp; omega
      go_wp2
      go_quiet (fail)
      go_wp2
      go_quiet (fail)
      go_wp2
      go_ret2
      refine dig_end B s i j w _ j1 j2 HD.out (Or.inl (by omega)) ?_ ?_
      · first | exact HA.out.drewN _ | exact (HA.out.drewN _).drewN _
      · first | exact HS.out.drewN _ | exact (HS.out.drewN _).drewN _
end Go.Proofs.Qxb6600554a
