import Derived.Test.Qxb6600554aRows
import Derived.Test.Qxb6600554aChecked
import Derived.Test.Qxb6600554aWkm
import Derived.WalkKit
import Derived.ProofKit
import Derived.OpenShut
import Derived.ShutString
namespace Go.Proofs.Qxb6600554a
open Go.RowKit

set_option maxRecDepth 100000 in
set_option maxHeartbeats 400000 in
theorem hasNul10 (s : ByteArray) (w : World) (hs : s.size ≤ 1048576) :
    Calls Try.prog 10 #[.string s] w fun e w' => (e = .returned (.bool true) ∨ (e = .returned (.bool false) ∧ ∀ j, j < s.size → bt s j ≠ 0)) ∧ w = w' := by
  go_enter Try.func10, Try.ntmps10
  go_wp2
  go_loop [3] (fun x => ∃ j : Nat, j ≤ s.size ∧ x = .int .i64 (j : Int) ∧ ∀ m, m < j → bt s m ≠ 0) (fun x => s.size - (intOf x).toNat)
  case atStart => exact ⟨0, Nat.zero_le _, rfl, fun m h => by omega⟩
  case round =>
    obtain ⟨j, j1, rfl, hd⟩ := hrel
    have HD := hide hd
    clear hd
    by_cases hjl : j < s.size
    · have l1 : (j : Int) < (s.size : Int) := by omega
      have hb := bt_at s j hjl
      by_cases hz : bt s j = 0
      · have e0 : ((s[j].toNat : Int) == 0) = true := by rw [beq_iff_eq]; omega
        clear hb hz
        go_wp2
        go_ret
        exact ⟨Or.inl rfl, rfl⟩
      · have e0 : ((s[j].toNat : Int) == 0) = false := beq_eq_false_iff_ne.2 (by omega)
        have HZ := hide hz
        clear hb hz
        go_wp2
        go_round
        case rel =>
          refine ⟨j + 1, by omega, by go_num, fun m h => ?_⟩
          by_cases e : m = j
          · rw [e]; exact HZ.out
          · exact HD.out m (by omega)
        case measure => simp [intOf]; omega
    · have l1 : ¬ ((j : Int) < (s.size : Int)) := by omega
      go_wp2
      go_ret
      exact ⟨Or.inr ⟨rfl, fun m h => HD.out m (by omega)⟩, rfl⟩

set_option maxRecDepth 100000 in
set_option maxHeartbeats 400000 in
theorem bytes9 (s : ByteArray) (w : World) :
    Calls Try.prog 9 #[.string s] w fun e w' => e = .returned (.bool (decide (s.size ≤ 1048576))) ∧ w = w' := by
  by_cases h : s.size ≤ 1048576
  · have l1 : (s.size : Int) ≤ 1048576 := by omega
    rw [decide_eq_true h]
    go_enter Try.func9, Try.ntmps9
    go_wp2
    go_ret
    exact ⟨rfl, rfl⟩
  · have l1 : (1048576 : Int) < (s.size : Int) := by omega
    rw [decide_eq_false h]
    go_enter Try.func9, Try.ntmps9
    go_wp2
    go_ret
    exact ⟨rfl, rfl⟩

theorem at_boxed (s : ByteArray) (w : World) : At w.heap.size s 0 (w.alloc (Obj.cells #[Value.string s, Value.int IntKind.i64 0] 48)) := by
  have h : (w.alloc (Obj.cells #[Value.string s, Value.int IntKind.i64 0] 48)).heap[w.heap.size]? = some (Obj.cells #[Value.string s, Value.int IntKind.i64 0] 48) := (MapKept.heap_alloc w _).1
  refine ⟨?_, ?_, ?_⟩
  · unfold World.cell?; rw [h]; rfl
  · unfold World.cell?; rw [h]; rfl
  · unfold World.frozen?; rw [h]; rfl

set_option maxRecDepth 100000 in
set_option maxHeartbeats 400000 in
theorem read11 (s : ByteArray) (w : World) (hs : s.size ≤ 1048576) (hnul : ∀ j, j < s.size → bt s j ≠ 0) :
    Calls Try.prog 11 #[.string s] w (RSaid w.heap.size w (readR s)) := by
  have HN := hide hnul
  clear hnul
  go_enter Try.func11, Try.ntmps11
  go_wp2_with fail
  refine (read31 w.heap.size s _ (at_boxed s w) hs (by simp) HN.out).mono ?_
  rintro e w1 ⟨hb, rfl⟩
  have HB := hide (((Below.refl w.heap.size w).alloc (Nat.le_refl _) _).trans hb)
  clear hb
  go_wp2
  go_ret2
  exact r_close rfl HB.out

set_option maxRecDepth 100000 in
set_option maxHeartbeats 400000 in
theorem law3 (s : ByteArray) (w : World) :
    Calls Try.prog 3 #[.string s] w fun e w' => e = .returned (.bool true) ∧ Below w.heap.size w w' := by
  have h9 := fun W => bytes9 s W
  by_cases hs : s.size ≤ 1048576
  · have l1 : (s.size : Int) ≤ 1048576 := by omega
    rw [decide_eq_true hs] at h9
    have H9 := hide h9
    clear h9
    have H10 := hide (fun W => hasNul10 s W hs)
    go_enter Try.func3, Try.ntmps3
    go_wp2_with fail
    refine (H9.out _).mono ?_
    rintro e w1 ⟨rfl, hw⟩
    subst hw
    go_wp2_with fail
    refine (H10.out _).mono ?_
    rintro e w1 ⟨he, hw⟩
    subst hw
    rcases he with rfl | ⟨rfl, hn⟩
    · go_wp2
      go_ret
      exact ⟨rfl, Below.refl _ _⟩
    · have HN := hide hn
      clear hn
      go_wp2_with fail
      refine (read11 s w hs HN.out).mono ?_
      rintro e w1 ⟨hb, rfl⟩
      have HB := hide hb
      clear hb
      go_wp2_with fail
      refine (read12 s w1 hs).mono ?_
      rintro e w2 ⟨rfl, hw⟩
      subst hw
      generalize readR s = R
      obtain ⟨v, ok⟩ := R
      dsimp only
      go_wp2
      go_ret
      exact ⟨rfl, HB.out⟩
  · rw [decide_eq_false hs] at h9
    have H9 := hide h9
    clear h9
    go_enter Try.func3, Try.ntmps3
    go_wp2_with fail
    refine (H9.out _).mono ?_
    rintro e w1 ⟨rfl, hw⟩
    subst hw
    go_wp2
    go_ret
    exact ⟨rfl, Below.refl _ _⟩

end Go.Proofs.Qxb6600554a
namespace Go.Proofs.Qxb6600554a
open Go.ChangeShapes Go.WideShapes Go.ChangeAt Go.RowKit
open Go.ChangeMaps (open_string shut_string)

theorem own : ownKnob Try.prog.godebug = none := by kernel_rfl

set_option maxRecDepth 100000 in
theorem lifted (os : Os) (started : os.Started) (H : Type) (enc : TypeId × Value → H) :
    ReturnsInHanded {} Try.checked os 3 .any (Rows.fnDeltatReadMatchesSplitModelSpec.pre6 enc Try.prog Try.f3 Rows.fnDeltatReadMatchesSplitModelRow.domain false) (Rows.fnDeltatReadMatchesSplitModelSpec.post enc Try.prog Try.f3 false true false false) := by
  refine returnsInHanded_of_change (C := Try.checked) own started (by kernel_rfl) Try.func3
    (ChangeSpec.witness6 (enc := enc) (C := Try.checked) false ⟨#[], #[.string ByteArray.empty], []⟩ 8 (by kernel_rfl) (by kernel_rfl) (by kernel_rfl) (by kernel_rfl)) ?_
  intro W base args ds gs before hval0 hW hcnd _
  have hval : ∀ (j : Nat) t v, Try.f3.params[j]? = some t → args[j]? = some v → Value.okWide Try.prog W .any base t v := hval0
  have hW' := hW
  obtain ⟨p, q, hA0, hV, rfl, hfz, hnd⟩ := hW
  have hA : DataW.TrodAll enc Try.prog W 0 (fun _ => true) true Try.f3.params.toList args.toList ds p := hA0
  rw [Try.params3] at hA hval
  obtain ⟨v0, vs0, d0, ds0, p0, q0, hargs, rfl, rfl, h0, r0⟩ := trodAll_cons hA
  obtain ⟨rfl, rfl, rfl⟩ := trodAll_nil r0
  obtain rfl : args = #[v0] := by cases args; simp_all
  obtain ⟨rfl, rfl⟩ := trodVars_none hV
  obtain ⟨a0, rfl, rfl, rfl, w0⟩ := open_string Try.underlying9 (hval 0 9 v0 rfl rfl) h0
  clear hA0 hval0
  simp only [List.append_nil] at hW'
  refine (law3 a0 W).mono fun e W' ⟨he, hb⟩ => ?_
  subst he
  refine ⟨_, rfl, _, _, _, [], [], [], hW', ?_, ?_, rfl, hb.frame _, fun h => by cases h⟩
  · exact trodAll_cons_mk (shut_bool Try.underlying4 _) trodAll_mk0
  · exact trodAll_cons_mk (shut_string Try.underlying9 w0) trodAll_mk0

theorem over : Rows.fnDeltatReadMatchesSplitModelRow.holds Try.pinned (OpenSpec.ofChange Rows.fnDeltatReadMatchesSplitModelSpec) :=
  OpenClaim.holds_of_wide 3 Try.f3 rfl rfl rfl rfl rfl rfl rfl ⟨rfl, rfl, rfl, rfl, rfl⟩ rfl rfl rfl rfl rfl (by kernel_rfl) Try.func3 (by kernel_rfl)
    (of_decide_eq_true (by kernel_rfl)) (by unfold Func.isWrapper; first | (rw [if_pos (by decide +kernel)]; kernel_rfl) | (rw [if_neg (by decide +kernel)]; exact ⟨rfl, rfl⟩))
    (fun os started H enc _ => lifted os started H enc)

theorem proved : Rows.FnDeltatReadMatchesSplitModelSaid :=
  over
end Go.Proofs.Qxb6600554a
