import Derived.Test.Qxb6603118aRows
import Derived.Test.Qxb6603118aChecked
import Derived.Test.Qxb6603118aWkb
import Derived.WalkKit
import Derived.ProofKit
import Derived.OpenShut
import Derived.ShutString
namespace Go.Proofs.Qxb6603118a
open Go.RowKit

set_option maxRecDepth 100000 in
set_option maxHeartbeats 400000 in
theorem bytes10 (s u : ByteArray) (w : World) (hs : s.size ≤ 262144) (hu : u.size ≤ 262144) :
    Calls Try.prog 10 #[.string s, .string u] w fun e w' => e = .returned (.bool true) ∧ w = w' := by
  have l1 : (s.size : Int) ≤ 262144 := by omega
  have l2 : (u.size : Int) ≤ 262144 := by omega
  go_enter Try.func10, Try.ntmps10
  go_wp2
  go_ret
  exact ⟨rfl, rfl⟩

set_option maxRecDepth 100000 in
set_option maxHeartbeats 400000 in
theorem bytes10_any (s u : ByteArray) (w : World) :
    Calls Try.prog 10 #[.string s, .string u] w fun e w' => (∃ b, e = .returned (.bool b)) ∧ w = w' := by
  by_cases h1 : s.size ≤ 1048576
  · have l1 : (s.size : Int) ≤ 1048576 := by omega
    by_cases h2 : u.size ≤ 1048576
    · have l2 : (u.size : Int) ≤ 1048576 := by omega
      by_cases h3 : s.size + u.size ≤ 1048576
      · have l3 : (s.size : Int) + (u.size : Int) ≤ 1048576 := by omega
        go_enter Try.func10, Try.ntmps10
        go_wp2
        go_ret
        exact ⟨⟨_, rfl⟩, rfl⟩
      · have l3 : (1048576 : Int) < (s.size : Int) + (u.size : Int) := by omega
        go_enter Try.func10, Try.ntmps10
        go_wp2
        go_ret
        exact ⟨⟨_, rfl⟩, rfl⟩
    · have l2 : (1048576 : Int) < (u.size : Int) := by omega
      go_enter Try.func10, Try.ntmps10
      go_wp2
      go_ret
      exact ⟨⟨_, rfl⟩, rfl⟩
  · have l1 : (1048576 : Int) < (s.size : Int) := by omega
    go_enter Try.func10, Try.ntmps10
    go_wp2
    go_ret
    exact ⟨⟨_, rfl⟩, rfl⟩

set_option maxRecDepth 100000 in
set_option maxHeartbeats 400000 in
theorem export12 (s : ByteArray) (r : Bool) (w : World) (hs : s.size ≤ 2000000) (hrun : Pl.Run s.data.toList 0 r) :
    Calls Try.prog 12 #[.string s] w (UnSaid w r) := by
  have H := hide (fun W => ungrouped25 s r W hs hrun)
  clear hrun
  go_enter Try.func12, Try.ntmps12
  go_wp2_with fail
  refine (H.out _).mono ?_
  rintro e w1 ⟨rfl, hw⟩
  subst hw
  go_wp2
  go_ret
  exact ⟨rfl, rfl⟩

/-- Two quoted texts, and what stands about them. -/
theorem law_quoted (t u : List UInt8) (q p : ByteArray) (hq : q = ⟨(Pl.qz t).toArray⟩) (hp : p = ⟨(Pl.qz u).toArray⟩) :
    Pl.Run q.data.toList 0 false ∧ Pl.Run p.data.toList 0 false ∧ Pl.Run (q ++ ⟨#[124]⟩ ++ p).data.toList 0 true ∧ Pl.Run (⟨#[40]⟩ ++ q ++ ⟨#[41, 124]⟩ ++ p).data.toList 0 true ∧
    Pl.Run (⟨#[40]⟩ ++ q ++ ⟨#[124]⟩ ++ p ++ ⟨#[41]⟩).data.toList 0 false ∧ Pl.Run (q ++ ⟨#[92, 124]⟩ ++ p).data.toList 0 false ∧ Pl.Run (⟨#[91]⟩ ++ q ++ ⟨#[124]⟩ ++ p ++ ⟨#[93]⟩).data.toList 0 false := by
  subst hq hp
  have h1 := Pl.said1 t
  have h2 := Pl.said1 u
  have h3 := Pl.said2 t u
  have h4 := Pl.said3 t u
  have h5 := Pl.said4 t u
  have h6 := Pl.said5 t u
  have h7 := Pl.said6 t u
  refine ⟨?_, ?_, ?_, ?_, ?_, ?_, ?_⟩ <;> simpa [ByteArray.data_append]

set_option maxRecDepth 100000 in
set_option maxHeartbeats 4000000 in
theorem law_main (s u : ByteArray) (w : World) (h1 : s.size ≤ 262144) (h2 : u.size ≤ 262144) :
    Calls Try.prog 3 #[.string s, .string u] w fun e w' => e = .returned (.bool true) ∧ Below w.heap.size w w' := by
  have l1 : (s.size : Int) ≤ 262144 := by omega
  have l2 : (u.size : Int) ≤ 262144 := by omega
  have H10 := hide (fun W => bytes10 s u W h1 h2)
  have HQ := hide (fun W => quote11 s W h1)
  have HP := hide (fun W => quote11 u W h2)
  have hz1 := Pl.qz_len s.data.toList
  have hz2 := Pl.qz_len u.data.toList
  have hn1 : s.data.toList.length = s.size := rfl
  have hn2 : u.data.toList.length = u.size := rfl
  generalize hq : (⟨(Pl.qz s.data.toList).toArray⟩ : ByteArray) = q at *
  generalize hp : (⟨(Pl.qz u.data.toList).toArray⟩ : ByteArray) = p at *
  obtain ⟨r1, r2, r3, r4, r5, r6, r7⟩ := law_quoted _ _ q p hq.symm hp.symm
  have hqs : q.size ≤ 524288 := by
    have : q.size = (Pl.qz s.data.toList).length := by rw [← hq]; simp [ByteArray.size]
    omega
  have hps : p.size ≤ 524288 := by
    have : p.size = (Pl.qz u.data.toList).length := by rw [← hp]; simp [ByteArray.size]
    omega
  have z40 : (⟨#[40]⟩ : ByteArray).size = 1 := rfl
  have z41 : (⟨#[41]⟩ : ByteArray).size = 1 := rfl
  have z91 : (⟨#[91]⟩ : ByteArray).size = 1 := rfl
  have z93 : (⟨#[93]⟩ : ByteArray).size = 1 := rfl
  have z124 : (⟨#[124]⟩ : ByteArray).size = 1 := rfl
  have z92124 : (⟨#[92, 124]⟩ : ByteArray).size = 2 := rfl
  have z41124 : (⟨#[41, 124]⟩ : ByteArray).size = 2 := rfl
  have H1 := hide (fun W => export12 q false W (by omega) r1)
  have H2 := hide (fun W => export12 p false W (by omega) r2)
  have H3 := hide (fun W => export12 (q ++ ⟨#[124]⟩ ++ p) true W (by simp only [ByteArray.size_append, z124]; omega) r3)
  have H4 := hide (fun W => export12 (⟨#[40]⟩ ++ q ++ ⟨#[41, 124]⟩ ++ p) true W (by simp only [ByteArray.size_append, z40, z41124]; omega) r4)
  have H5 := hide (fun W => export12 (⟨#[40]⟩ ++ q ++ ⟨#[124]⟩ ++ p ++ ⟨#[41]⟩) false W (by simp only [ByteArray.size_append, z40, z124, z41]; omega) r5)
  have H6 := hide (fun W => export12 (q ++ ⟨#[92, 124]⟩ ++ p) false W (by simp only [ByteArray.size_append, z92124]; omega) r6)
  have H7 := hide (fun W => export12 (⟨#[91]⟩ ++ q ++ ⟨#[124]⟩ ++ p ++ ⟨#[93]⟩) false W (by simp only [ByteArray.size_append, z91, z124, z93]; omega) r7)
  have hqi : (q.size : Int) ≤ 524288 := by omega
  have hpi : (p.size : Int) ≤ 524288 := by omega
  clear r1 r2 r3 r4 r5 r6 r7 hq hp hz1 hz2 hn1 hn2 z40 z41 z91 z93 z124 z92124 z41124
  go_enter Try.func3, Try.ntmps3
  go_wp2_with fail
  refine (H10.out _).mono ?_
  rintro e w1 ⟨rfl, hw⟩
  subst hw
  go_wp2_with fail
  refine (HQ.out _).mono ?_
  rintro e w1 ⟨rfl, hb1⟩
  have HB1 := hide hb1
  have hw1 := hb1.size
  clear hb1
  go_wp2_with fail
  refine (HP.out _).mono ?_
  rintro e w2 ⟨rfl, hb2⟩
  have HB2 := hide (HB1.out.trans (hb2.mono hw1))
  clear hb2
  go_wp2_with fail
  refine (H1.out _).mono ?_
  rintro e w3 ⟨rfl, hw⟩
  subst hw
  go_wp2_with fail
  refine (H2.out _).mono ?_
  rintro e w3 ⟨rfl, hw⟩
  subst hw
  go_wp2_with fail
  refine (H3.out _).mono ?_
  rintro e w3 ⟨rfl, hw⟩
  subst hw
  go_wp2_with fail
  refine (H4.out _).mono ?_
  rintro e w3 ⟨rfl, hw⟩
  subst hw
  go_wp2_with fail
  refine (H5.out _).mono ?_
  rintro e w3 ⟨rfl, hw⟩
  subst hw
  go_wp2_with fail
  refine (H6.out _).mono ?_
  rintro e w3 ⟨rfl, hw⟩
  subst hw
  go_wp2_with fail
  refine (H7.out _).mono ?_
  rintro e w3 ⟨rfl, hw⟩
  subst hw
  go_wp2
  go_ret
  exact ⟨rfl, HB2.out⟩

set_option maxRecDepth 100000 in
set_option maxHeartbeats 1000000 in
theorem law_u (s u : ByteArray) (w : World) (h1 : s.size ≤ 262144) (h2 : ¬ u.size ≤ 262144) :
    Calls Try.prog 3 #[.string s, .string u] w fun e w' => e = .returned (.bool true) ∧ Below w.heap.size w w' := by
  have l1 : (s.size : Int) ≤ 262144 := by omega
  have l2 : (262144 : Int) < (u.size : Int) := by omega
  have H10 := hide (fun W => bytes10_any s u W)
  go_enter Try.func3, Try.ntmps3
  go_wp2_with fail
  refine (H10.out _).mono ?_
  rintro e w1 ⟨⟨b, rfl⟩, hw⟩
  subst hw
  cases b
  · go_wp2
    go_ret
    exact ⟨rfl, Below.refl _ _⟩
  · go_wp2
    go_ret
    exact ⟨rfl, Below.refl _ _⟩

set_option maxRecDepth 100000 in
set_option maxHeartbeats 1000000 in
theorem law_s (s u : ByteArray) (w : World) (h1 : ¬ s.size ≤ 262144) :
    Calls Try.prog 3 #[.string s, .string u] w fun e w' => e = .returned (.bool true) ∧ Below w.heap.size w w' := by
  have l1 : (262144 : Int) < (s.size : Int) := by omega
  have H10 := hide (fun W => bytes10_any s u W)
  go_enter Try.func3, Try.ntmps3
  go_wp2_with fail
  refine (H10.out _).mono ?_
  rintro e w1 ⟨⟨b, rfl⟩, hw⟩
  subst hw
  cases b
  · go_wp2
    go_ret
    exact ⟨rfl, Below.refl _ _⟩
  · go_wp2
    go_ret
    exact ⟨rfl, Below.refl _ _⟩

theorem law3 (s u : ByteArray) (w : World) :
    Calls Try.prog 3 #[.string s, .string u] w fun e w' => e = .returned (.bool true) ∧ Below w.heap.size w w' := by
  by_cases h1 : s.size ≤ 262144
  · by_cases h2 : u.size ≤ 262144
    · exact law_main s u w h1 h2
    · exact law_u s u w h1 h2
  · exact law_s s u w h1
end Go.Proofs.Qxb6603118a
namespace Go.Proofs.Qxb6603118a
open Go.ChangeShapes Go.WideShapes Go.ChangeAt Go.RowKit
open Go.ChangeMaps (open_string shut_string)

theorem own : ownKnob Try.prog.godebug = none := by kernel_rfl

set_option maxRecDepth 100000 in
theorem lifted (os : Os) (started : os.Started) (H : Type) (enc : TypeId × Value → H) :
    ReturnsInHanded {} Try.checked os 3 .any (Rows.fnUngroupedAlternationQuotedPiecesSpec.pre6 enc Try.prog Try.f3 Rows.fnUngroupedAlternationQuotedPiecesRow.domain false) (Rows.fnUngroupedAlternationQuotedPiecesSpec.post enc Try.prog Try.f3 false true false false) := by
  refine returnsInHanded_of_change (C := Try.checked) own started (by kernel_rfl) Try.func3
    (ChangeSpec.witness6 (enc := enc) (C := Try.checked) false ⟨#[], #[.string ByteArray.empty, .string ByteArray.empty], []⟩ 8 (by kernel_rfl) (by kernel_rfl) (by kernel_rfl) (by kernel_rfl)) ?_
  intro W base args ds gs before hval0 hW hcnd _
  have hval : ∀ (j : Nat) t v, Try.f3.params[j]? = some t → args[j]? = some v → Value.okWide Try.prog W .any base t v := hval0
  have hW' := hW
  obtain ⟨p, q, hA0, hV, rfl, hfz, hnd⟩ := hW
  have hA : DataW.TrodAll enc Try.prog W 0 (fun _ => true) true Try.f3.params.toList args.toList ds p := hA0
  rw [Try.params3] at hA hval
  obtain ⟨v0, vs0, d0, ds0, p0, q0, hargs, rfl, rfl, h0, r0⟩ := trodAll_cons hA
  obtain ⟨v1, vs1, d1, ds1, p1, q1, rfl, rfl, rfl, h1, r1⟩ := trodAll_cons r0
  obtain ⟨rfl, rfl, rfl⟩ := trodAll_nil r1
  obtain rfl : args = #[v0, v1] := by cases args; simp_all
  obtain ⟨rfl, rfl⟩ := trodVars_none hV
  obtain ⟨a0, rfl, rfl, rfl, w0⟩ := open_string Try.underlying9 (hval 0 9 v0 rfl rfl) h0
  obtain ⟨a1, rfl, rfl, rfl, w1⟩ := open_string Try.underlying9 (hval 1 9 v1 rfl rfl) h1
  clear hA0 hval0
  simp only [List.append_nil] at hW'
  refine (law3 a0 a1 W).mono fun e W' ⟨he, hb⟩ => ?_
  subst he
  refine ⟨_, rfl, _, _, _, [], [], [], hW', ?_, ?_, rfl, hb.frame _, fun h => by cases h⟩
  · exact trodAll_cons_mk (shut_bool Try.underlying4 _) trodAll_mk0
  · exact trodAll_cons_mk (shut_string Try.underlying9 w0) (trodAll_cons_mk (shut_string Try.underlying9 w1) trodAll_mk0)

theorem over : Rows.fnUngroupedAlternationQuotedPiecesRow.holds Try.pinned (OpenSpec.ofChange Rows.fnUngroupedAlternationQuotedPiecesSpec) :=
  OpenClaim.holds_of_wide 3 Try.f3 rfl rfl rfl rfl rfl rfl rfl ⟨rfl, rfl, rfl, rfl, rfl⟩ rfl rfl rfl rfl rfl (by kernel_rfl) Try.func3 (by kernel_rfl)
    (of_decide_eq_true (by kernel_rfl)) (by unfold Func.isWrapper; first | (rw [if_pos (by decide +kernel)]; kernel_rfl) | (rw [if_neg (by decide +kernel)]; exact ⟨rfl, rfl⟩))
    (fun os started H enc _ => lifted os started H enc)

theorem proved : Rows.FnUngroupedAlternationQuotedPiecesSaid :=
  over
end Go.Proofs.Qxb6603118a
