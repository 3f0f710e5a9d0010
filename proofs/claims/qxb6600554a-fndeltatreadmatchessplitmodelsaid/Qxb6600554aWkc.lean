import Derived.Test.Qxb6600554aWkb
namespace Go.Proofs.Qxb6600554a
open Go.RowKit

theorem quiet_of {f : FuncId} {args : Array Value} {v : Value} (w : World) (n : Nat) (h : ∀ W, Calls Try.prog f args W fun e w' => e = .returned v ∧ ∃ n, w' = W.drewN n) : Calls Try.prog f args (w.drewN n) fun e w' => e = .returned v ∧ ∃ m, w' = w.drewN m :=
  (h (w.drewN n)).mono (by
    rintro e w' ⟨rfl, m, rfl⟩
    exact ⟨rfl, n + m, by simp⟩)

theorem wrap32_byte (c : Nat) (h : c < 256) : wrap32 (c : Int) = (c : Int) := by unfold wrap32; omega
theorem containsSt' (c : Nat) (w : World) (hc : c < 256) : Calls Try.prog 52 #[.string ⟨#[32, 9, 10]⟩, .int .i32 (wrap32 (c : Int))] w fun e w' => e = .returned (.bool (Pl.isSt c)) ∧ ∃ n, w' = w.drewN n := by
  rw [wrap32_byte c hc]; exact containsSt c w hc
theorem containsSp' (c : Nat) (w : World) (hc : c < 256) : Calls Try.prog 52 #[.string ⟨#[32, 9, 10, 11, 12, 13]⟩, .int .i32 (wrap32 (c : Int))] w fun e w' => e = .returned (.bool (Pl.isSp c)) ∧ ∃ n, w' = w.drewN n := by
  rw [wrap32_byte c hc]; exact containsSp c w hc

/-- What blanks hands back. -/
def BlSaid (B : Nat) (s : ByteArray) (i : Nat) (w : World) (e : Ending) (w' : World) : Prop :=
  Same B w w' ∧ e = .returned (.bool (decide (i < s.size) && Pl.isSt (bt s i))) ∧ At B s (Pl.skip (bt s) s.size i) w'

set_option maxRecDepth 100000 in
set_option maxHeartbeats 1000000 in
theorem blanks_no (B : Nat) (s : ByteArray) (i : Nat) (w : World) (ha : At B s i w) (hi : i ≤ s.size) (_hs : s.size ≤ 1048576) (hn : ¬ (i < s.size ∧ Pl.isSt (bt s i) = true)) :
    Calls Try.prog 48 #[.pointer (some ⟨B, 0, none⟩)] w (BlSaid B s i w) := by
  have hA := hide ha
  obtain ⟨c0, c1, z1⟩ := ha
  have hsk : Hid (Pl.skip (bt s) s.size i = i) := by unfold Pl.skip; rw [if_neg hn]; exact rfl
  have hres : Hid ((decide (i < s.size) && Pl.isSt (bt s i)) = false) := by
    show _ = _
    cases h : (decide (i < s.size) && Pl.isSt (bt s i))
    · rfl
    · exfalso; apply hn; simpa using h
  by_cases hlt : i < s.size
  · have e1 : ((i : Int) == (s.size : Int)) = false := beq_eq_false_iff_ne.2 (by omega)
    have hst : Pl.isSt s[i].toNat = false := by
      rw [← bt_at s i hlt]
      cases h : Pl.isSt (bt s i)
      · rfl
      · exact absurd ⟨hlt, h⟩ hn
    clear hn
    have l1 : (i : Int) < (s.size : Int) := by omega
    have hcall := fun W => containsSt' s[i].toNat W (UInt8.toNat_lt _)
    rw [hst] at hcall
    have HC := hide hcall
    clear hcall
    go_enter Try.func48, Try.ntmps48
    go_wp2
    go_quiet ((go_at_call 52; exact quiet_of _ _ HC.out))
    go_wp2
    go_ret
    exact ⟨(Same.refl _ _).drewN _, by rw [hres.out]; rfl, by rw [hsk.out]; exact hA.out.drewN _⟩
  · have e1 : ((i : Int) == (s.size : Int)) = true := beq_iff_eq.2 (by omega)
    clear hn
    go_enter Try.func48, Try.ntmps48
    go_wp2
    go_quiet (fail)
    go_wp2
    go_ret
    exact ⟨(Same.refl _ _).drewN _, by rw [hres.out]; rfl, by rw [hsk.out]; exact hA.out.drewN _⟩

set_option maxRecDepth 100000 in
set_option maxHeartbeats 1000000 in
theorem blanks_yes (B : Nat) (s : ByteArray) (i : Nat) (w : World) (ha : At B s i w) (hs : s.size ≤ 1048576) (hlt : i < s.size) (hst0 : Pl.isSt (bt s i) = true) :
    Calls Try.prog 48 #[.pointer (some ⟨B, 0, none⟩)] w (BlSaid B s i w) := by
  have hA := hide ha
  obtain ⟨c0, c1, z1⟩ := ha
  have hsk : Hid (Pl.skip (bt s) s.size i = Pl.stop Pl.isSp (bt s) s.size i) := by unfold Pl.skip; rw [if_pos ⟨hlt, hst0⟩]; exact rfl
  have hres : Hid ((decide (i < s.size) && Pl.isSt (bt s i)) = true) := by show _ = _; rw [hst0]; simp [hlt]
  have e1 : ((i : Int) == (s.size : Int)) = false := beq_eq_false_iff_ne.2 (by omega)
  have hst : Pl.isSt s[i].toNat = true := by rw [← bt_at s i hlt]; exact hst0
  clear hst0
  have l1 : (i : Int) < (s.size : Int) := by omega
  have hcall := fun W => containsSt' s[i].toNat W (UInt8.toNat_lt _)
  rw [hst] at hcall
  have HC := hide hcall
  clear hcall
  go_enter Try.func48, Try.ntmps48
  go_wp2
  go_quiet ((go_at_call 52; exact quiet_of _ _ HC.out))
  go_wp2
  go_loopw [] (fun wr => ∃ j : Nat, i ≤ j ∧ j ≤ s.size ∧ (∀ m, i ≤ m → m < j → Pl.isSp (bt s m) = true) ∧ At B s j wr ∧ Same B w wr) (fun wr => s.size - (intOf ((wr.cell? ⟨B, 1, none⟩).getD .nilIface)).toNat)
  case atStart => exact ⟨i, Nat.le_refl _, by omega, fun m a b => by omega, hA.out.drewN _, (Same.refl _ _).drewN _⟩
  case round =>
    obtain ⟨j, j1, j2, hd, hat, hsame⟩ := hrel
    have HD := hide hd
    have HS := hide hsame
    have HA := hide hat
    obtain ⟨d0, d1, y1⟩ := hat
    clear hd hsame
    by_cases hjl : j < s.size
    · have l2 : (j : Int) < (s.size : Int) := by omega
      have hb := bt_at s j hjl
      have hcall := fun W => containsSp' s[j].toNat W (UInt8.toNat_lt _)
      by_cases hsp : Pl.isSp (bt s j) = true
      · have hsp' : Pl.isSp s[j].toNat = true := by rw [← hb]; exact hsp
        rw [hsp'] at hcall
        have HP := hide hsp
        have HCj := hide hcall
        clear hcall hsp hb
        go_wp2
        go_quiet ((go_at_call 52; exact quiet_of _ _ HCj.out))
        go_wp2
        go_roundw
        case rel =>
          refine ⟨j + 1, by omega, by omega, fun m a b => ?_, (HA.out.drewN _).set (j + 1) _ (by omega), (HS.out.drewN _).set _ _⟩
          by_cases e : m = j
          · rw [e]; exact HP.out
          · exact HD.out m a (by omega)
        case measure =>
          rw [World.cell?_setCell_same _ _ _ (by exact d1), d1]
          simp [intOf]
          omega
      · have hsp' : Pl.isSp s[j].toNat = false := by
          rw [← hb]
          cases h : Pl.isSp (bt s j)
          · rfl
          · exact absurd h hsp
        have hsp2 : Hid (Pl.isSp (bt s j) = false) := by show _ = _; rw [hb]; exact hsp'
        rw [hsp'] at hcall
        have HCj := hide hcall
        clear hcall hsp hb
        go_wp2
        go_quiet ((go_at_call 52; exact quiet_of _ _ HCj.out))
        go_wp2
        go_ret
        have e := Pl.stop_eq Pl.isSp (bt s) s.size i j j1 j2 HD.out (Or.inr hsp2.out)
        exact ⟨HS.out.drewN _, by rw [hres.out]; rfl, by rw [hsk.out, e]; exact HA.out.drewN _⟩
    · have l2 : decide ((j : Int) < (s.size : Int)) = false := by simp; omega
      go_wp2
      go_quiet (fail)
      go_wp2
      go_ret
      have e := Pl.stop_eq Pl.isSp (bt s) s.size i j j1 j2 HD.out (Or.inl (by omega))
      exact ⟨HS.out.drewN _, by rw [hres.out]; rfl, by rw [hsk.out, e]; exact HA.out.drewN _⟩

theorem blanks48 (B : Nat) (s : ByteArray) (i : Nat) (w : World) (ha : At B s i w) (hi : i ≤ s.size) (hs : s.size ≤ 1048576) :
    Calls Try.prog 48 #[.pointer (some ⟨B, 0, none⟩)] w (BlSaid B s i w) := by
  by_cases h : i < s.size ∧ Pl.isSt (bt s i) = true
  · exact blanks_yes B s i w ha hs h.1 h.2
  · exact blanks_no B s i w ha hi hs h
end Go.Proofs.Qxb6600554a
