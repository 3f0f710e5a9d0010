import Derived.Test.Qxb6601067aRows
import Derived.Test.Qxb6601067aChecked
import Derived.Test.Qxb6601067aWkh
import Derived.WalkKit
import Derived.ProofKit
import Derived.OpenShut
import Derived.ShutString
namespace Go.Proofs.Qxb6601067a
open Go.RowKit

set_option maxRecDepth 100000 in
set_option maxHeartbeats 2000000 in
theorem bytes8_any (v f t : ByteArray) (w : World) :
    Calls Try.prog 8 #[.string v, .string f, .string t] w fun e w' => (∃ b, e = .returned (.bool b)) ∧ w = w' := by
  by_cases h0 : v.size ≤ 1048576
  · have l0 : (v.size : Int) ≤ 1048576 := by omega
    by_cases h2 : f.size ≤ 1048576
    · have l2 : (f.size : Int) ≤ 1048576 := by omega
      by_cases h3 : v.size + f.size ≤ 1048576
      · have l3 : (v.size : Int) + (f.size : Int) ≤ 1048576 := by omega
        by_cases h4 : t.size ≤ 1048576
        · have l4 : (t.size : Int) ≤ 1048576 := by omega
          by_cases h5 : v.size + f.size + t.size ≤ 1048576
          · have l5 : (v.size : Int) + (f.size : Int) + (t.size : Int) ≤ 1048576 := by omega
            go_enter Try.func8, Try.ntmps8
            go_wp2
            go_ret
            exact ⟨⟨_, rfl⟩, rfl⟩
          · have l5 : (1048576 : Int) < (v.size : Int) + (f.size : Int) + (t.size : Int) := by omega
            go_enter Try.func8, Try.ntmps8
            go_wp2
            go_ret
            exact ⟨⟨_, rfl⟩, rfl⟩
        · have l4 : (1048576 : Int) < (t.size : Int) := by omega
          go_enter Try.func8, Try.ntmps8
          go_wp2
          go_ret
          exact ⟨⟨_, rfl⟩, rfl⟩
      · have l3 : (1048576 : Int) < (v.size : Int) + (f.size : Int) := by omega
        go_enter Try.func8, Try.ntmps8
        go_wp2
        go_ret
        exact ⟨⟨_, rfl⟩, rfl⟩
    · have l2 : (1048576 : Int) < (f.size : Int) := by omega
      go_enter Try.func8, Try.ntmps8
      go_wp2
      go_ret
      exact ⟨⟨_, rfl⟩, rfl⟩
  · have l0 : (1048576 : Int) < (v.size : Int) := by omega
    go_enter Try.func8, Try.ntmps8
    go_wp2
    go_ret
    exact ⟨⟨_, rfl⟩, rfl⟩

set_option maxRecDepth 100000 in
set_option maxHeartbeats 400000 in
theorem export9 (v f t : ByteArray) (w : World) (hv : v.size ≤ 65536) (ht : t.size ≤ 65536) :
    Calls Try.prog 9 #[.string v, .string f, .string t] w fun e w' => e = .returned (.string (tx (Pl.mm f.data.toList t.data.toList 0 [] v.data.toList))) ∧ Below w.heap.size w w' := by
  have H := hide (fun W => links20 v f t W hv ht)
  go_enter Try.func9, Try.ntmps9
  go_wp2_with fail
  refine (H.out _).mono ?_
  rintro e w1 ⟨rfl, hb⟩
  have HB := hide hb
  clear hb
  go_wp2
  go_ret
  exact ⟨rfl, HB.out⟩

set_option maxRecDepth 100000 in
set_option maxHeartbeats 2000000 in
theorem law_main (v f t : ByteArray) (w : World) (hv : v.size ≤ 65536) (hf : f.size ≤ 65536) (ht : t.size ≤ 65536) :
    Calls Try.prog 3 #[.string v, .string f, .string t] w fun e w' => e = .returned (.bool true) ∧ Below w.heap.size w w' := by
  have l1 : (v.size : Int) ≤ 65536 := by omega
  have l2 : (f.size : Int) ≤ 65536 := by omega
  have l3 : (t.size : Int) ≤ 65536 := by omega
  have H8 := hide (fun W => bytes8_any v f t W)
  have HG := hide (fun W => export9 v f t W hv ht)
  have HM := hide (fun W => model10 v f t W hv ht hf)
  generalize tx (Pl.mm f.data.toList t.data.toList 0 [] v.data.toList) = r at HG HM
  go_enter Try.func3, Try.ntmps3
  go_wp2_with fail
  refine (H8.out _).mono ?_
  rintro e w1 ⟨⟨b, rfl⟩, hw⟩
  subst hw
  cases b
  · go_wp2
    go_ret
    exact ⟨rfl, Below.refl _ _⟩
  · by_cases hp : (33554432 : Int) < wrap64 (((v.size : Int) + 1) * ((t.size : Int) + 1))
    · go_wp2
      go_ret
      exact ⟨rfl, Below.refl _ _⟩
    · go_wp2_with fail
      refine (HG.out _).mono ?_
      rintro e w1 ⟨rfl, hb1⟩
      have HB1 := hide hb1
      have hz1 := hb1.size
      clear hb1
      go_wp2_with fail
      refine (HM.out _).mono ?_
      rintro e w2 ⟨rfl, hb2⟩
      have HB2 := hide (HB1.out.trans (hb2.mono hz1))
      clear hb2 HB1
      go_wp2
      go_ret
      exact ⟨by simp, HB2.out⟩

set_option maxRecDepth 100000 in
set_option maxHeartbeats 1000000 in
theorem law_v (v f t : ByteArray) (w : World) (hv : ¬ v.size ≤ 65536) :
    Calls Try.prog 3 #[.string v, .string f, .string t] w fun e w' => e = .returned (.bool true) ∧ Below w.heap.size w w' := by
  have l1 : (65536 : Int) < (v.size : Int) := by omega
  have H8 := hide (fun W => bytes8_any v f t W)
  go_enter Try.func3, Try.ntmps3
  go_wp2_with fail
  refine (H8.out _).mono ?_
  rintro e w1 ⟨⟨b, rfl⟩, hw⟩
  subst hw
  cases b
  · go_wp2
    go_ret
    exact ⟨rfl, Below.refl _ _⟩
  · go_wp2
    go_ret
    exact ⟨rfl, Below.refl _ _⟩

set_option maxRecDepth 100000 in
set_option maxHeartbeats 1000000 in
theorem law_f (v f t : ByteArray) (w : World) (hv : v.size ≤ 65536) (hf : ¬ f.size ≤ 65536) :
    Calls Try.prog 3 #[.string v, .string f, .string t] w fun e w' => e = .returned (.bool true) ∧ Below w.heap.size w w' := by
  have l1 : (v.size : Int) ≤ 65536 := by omega
  have l2 : (65536 : Int) < (f.size : Int) := by omega
  have H8 := hide (fun W => bytes8_any v f t W)
  go_enter Try.func3, Try.ntmps3
  go_wp2_with fail
  refine (H8.out _).mono ?_
  rintro e w1 ⟨⟨b, rfl⟩, hw⟩
  subst hw
  cases b
  · go_wp2
    go_ret
    exact ⟨rfl, Below.refl _ _⟩
  · go_wp2
    go_ret
    exact ⟨rfl, Below.refl _ _⟩

set_option maxRecDepth 100000 in
set_option maxHeartbeats 1000000 in
theorem law_t (v f t : ByteArray) (w : World) (hv : v.size ≤ 65536) (hf : f.size ≤ 65536) (ht : ¬ t.size ≤ 65536) :
    Calls Try.prog 3 #[.string v, .string f, .string t] w fun e w' => e = .returned (.bool true) ∧ Below w.heap.size w w' := by
  have l1 : (v.size : Int) ≤ 65536 := by omega
  have l2 : (f.size : Int) ≤ 65536 := by omega
  have l3 : (65536 : Int) < (t.size : Int) := by omega
  have H8 := hide (fun W => bytes8_any v f t W)
  go_enter Try.func3, Try.ntmps3
  go_wp2_with fail
  refine (H8.out _).mono ?_
  rintro e w1 ⟨⟨b, rfl⟩, hw⟩
  subst hw
  cases b
  · go_wp2
    go_ret
    exact ⟨rfl, Below.refl _ _⟩
  · go_wp2
    go_ret
    exact ⟨rfl, Below.refl _ _⟩

theorem law3 (v f t : ByteArray) (w : World) :
    Calls Try.prog 3 #[.string v, .string f, .string t] w fun e w' => e = .returned (.bool true) ∧ Below w.heap.size w w' := by
  by_cases hv : v.size ≤ 65536
  · by_cases hf : f.size ≤ 65536
    · by_cases ht : t.size ≤ 65536
      · exact law_main v f t w hv hf ht
      · exact law_t v f t w hv hf ht
    · exact law_f v f t w hv hf
  · exact law_v v f t w hv
end Go.Proofs.Qxb6601067a
namespace Go.Proofs.Qxb6601067a
open Go.ChangeShapes Go.WideShapes Go.ChangeAt Go.RowKit
open Go.ChangeMaps (open_string shut_string)

theorem own : ownKnob Try.prog.godebug = none := by kernel_rfl

set_option maxRecDepth 100000 in
theorem lifted (os : Os) (started : os.Started) (H : Type) (enc : TypeId × Value → H) :
    ReturnsInHanded {} Try.checked os 3 .any (Rows.fnRebaseLinksMatchesStateMachineSpec.pre6 enc Try.prog Try.f3 Rows.fnRebaseLinksMatchesStateMachineRow.domain false) (Rows.fnRebaseLinksMatchesStateMachineSpec.post enc Try.prog Try.f3 false true false false) := by
  refine returnsInHanded_of_change (C := Try.checked) own started (by kernel_rfl) Try.func3
    (ChangeSpec.witness6 (enc := enc) (C := Try.checked) false ⟨#[], #[.string ByteArray.empty, .string ByteArray.empty, .string ByteArray.empty], []⟩ 8 (by kernel_rfl) (by kernel_rfl) (by kernel_rfl) (by kernel_rfl)) ?_
  intro W base args ds gs before hval0 hW hcnd _
  have hval : ∀ (j : Nat) t v, Try.f3.params[j]? = some t → args[j]? = some v → Value.okWide Try.prog W .any base t v := hval0
  have hW' := hW
  obtain ⟨p, q, hA0, hV, rfl, hfz, hnd⟩ := hW
  have hA : DataW.TrodAll enc Try.prog W 0 (fun _ => true) true Try.f3.params.toList args.toList ds p := hA0
  rw [Try.params3] at hA hval
  obtain ⟨v0, vs0, d0, ds0, p0, q0, hargs, rfl, rfl, h0, r0⟩ := trodAll_cons hA
  obtain ⟨v1, vs1, d1, ds1, p1, q1, rfl, rfl, rfl, h1, r1⟩ := trodAll_cons r0
  obtain ⟨v2, vs2, d2, ds2, p2, q2, rfl, rfl, rfl, h2, r2⟩ := trodAll_cons r1
  obtain ⟨rfl, rfl, rfl⟩ := trodAll_nil r2
  obtain rfl : args = #[v0, v1, v2] := by cases args; simp_all
  obtain ⟨rfl, rfl⟩ := trodVars_none hV
  obtain ⟨a0, rfl, rfl, rfl, w0⟩ := open_string Try.underlying9 (hval 0 9 v0 rfl rfl) h0
  obtain ⟨a1, rfl, rfl, rfl, w1⟩ := open_string Try.underlying9 (hval 1 9 v1 rfl rfl) h1
  obtain ⟨a2, rfl, rfl, rfl, w2⟩ := open_string Try.underlying9 (hval 2 9 v2 rfl rfl) h2
  clear hA0 hval0
  simp only [List.append_nil] at hW'
  refine (law3 a0 a1 a2 W).mono fun e W' ⟨he, hb⟩ => ?_
  subst he
  refine ⟨_, rfl, _, _, _, [], [], [], hW', ?_, ?_, rfl, hb.frame _, fun h => by cases h⟩
  · exact trodAll_cons_mk (shut_bool Try.underlying4 _) trodAll_mk0
  · exact trodAll_cons_mk (shut_string Try.underlying9 w0) (trodAll_cons_mk (shut_string Try.underlying9 w1) (trodAll_cons_mk (shut_string Try.underlying9 w2) trodAll_mk0))

theorem over : Rows.fnRebaseLinksMatchesStateMachineRow.holds Try.pinned (OpenSpec.ofChange Rows.fnRebaseLinksMatchesStateMachineSpec) :=
  OpenClaim.holds_of_wide 3 Try.f3 rfl rfl rfl rfl rfl rfl rfl ⟨rfl, rfl, rfl, rfl, rfl⟩ rfl rfl rfl rfl rfl (by kernel_rfl) Try.func3 (by kernel_rfl)
    (of_decide_eq_true (by kernel_rfl)) (by unfold Func.isWrapper; first | (rw [if_pos (by decide +kernel)]; kernel_rfl) | (rw [if_neg (by decide +kernel)]; exact ⟨rfl, rfl⟩))
    (fun os started H enc _ => lifted os started H enc)

theorem proved : Rows.FnRebaseLinksMatchesStateMachineSaid :=
  over
end Go.Proofs.Qxb6601067a
