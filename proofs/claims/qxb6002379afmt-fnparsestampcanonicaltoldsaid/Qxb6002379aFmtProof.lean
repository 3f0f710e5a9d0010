import Derived.Test.Qxb6002379aFmtWkf
import Derived.Test.Qxb6002379aFmtTie
import Derived.Test.Qxb6002379aFmtCards
import Derived.ProofKit
import Derived.OpenShut
import Derived.ShutString
import Derived.Lay
import Derived.Lib.LaidTab
import Derived.Stop.LaidErr
import Derived.Stop.JoinedTold
import Derived.SevenTiedAt
namespace Go.Proofs.Qxb6002379aFmt
open Go.ChangeShapes Go.WideShapes Go.ChangeAt Go.RowKit
open Go.ChangeMaps (open_string shut_string)

theorem own : ownKnob Tryf.prog.godebug = none := by kernel_rfl
theorem gTab : Tryf.prog.globalNamed tabName = some 1 := by kernel_rfl
theorem gTabType : (Tryf.prog.globals[1]?).map (·.type) = some 74 := by kernel_rfl

/-- From the row's condition to the table. -/
theorem tab_of_laid {W : World} (h : laidMetH Tryf.prog Rows.fnParseStampCanonicalRow.laid W) : Lib.TabIs Tryf.prog W tabName .u64 Lib.pow10Tab := by
  rw [MakeChecks.laidMetH_plain _ _ _ (by kernel_rfl)] at h
  have h2 : laidMet Tryf.prog [(tabName, Lib.tabData .u64 Lib.pow10Tab)] W := h.tail.tail
  exact Lib.tabIs_of_head gTab gTabType Tryf.underlying74 Tryf.underlying22 (by kernel_rfl) (by kernel_rfl) h2

theorem tab_below {W W' : World} (h : Lib.TabIs Tryf.prog W tabName .u64 Lib.pow10Tab) (hb : Below W.heap.size W W') : Lib.TabIs Tryf.prog W' tabName .u64 Lib.pow10Tab := by
  have hlt : 1 < W.heap.size := by
    rcases Nat.lt_or_ge 1 W.heap.size with k | k
    · exact k
    · have := h.cell gTab 0 (by decide)
      simp [World.cell?, Array.getElem?_eq_none k] at this
  exact var?_below hb gTab hlt h

theorem walk (s : ByteArray) (ws : s.size ≤ maxLen) (W : World) (htab : Lib.TabIs Tryf.prog W tabName .u64 Lib.pow10Tab) :
    Calls Tryf.prog 4 #[.string s] W fun e w' => e = .returned (.bool true) ∧ Below W.heap.size W w' := by
  by_cases h : s.size ≤ 65536
  · exact law_any s W h (fun _ hb => tab_below htab hb)
  · exact law_long s W ws (by omega)

set_option maxRecDepth 100000 in
theorem lifted (os : Os) (started : os.Started) (H : Type) (enc : TypeId × Value → H) :
    ReturnsInTold none {} Tryf.checked os 4 .any Input.okWide ((OpenSpec.ofChange Rows.fnParseStampCanonicalSpec).preRow enc Tryf.prog Tryf.f4 [] false Rows.fnParseStampCanonicalRow.laid)
      (fun F => ((OpenSpec.ofChange Rows.fnParseStampCanonicalSpec).at F).post enc Tryf.prog Tryf.f4 false true false false) (aloneAtReturn Tryf.prog) nothingAlways := by
  refine returnsInTold_of_row (C := Tryf.checked) (s := OpenSpec.ofChange Rows.fnParseStampCanonicalSpec) (by kernel_rfl) own started (by kernel_rfl) Tryf.func4
    (OpenSpec.witness_stopped_at (enc := enc) (C := Tryf.checked) false (World.laidAll Tryf.prog os Rows.fnParseStampCanonicalRow.laid) #[.string ByteArray.empty] (World.laidAll_os _ _ _) (by kernel_rfl) (by kernel_rfl) (by kernel_rfl)
      (OpenSpec.preRow_of_B rfl 8 (by kernel_rfl) (by kernel_rfl) (by rw [MakeChecks.laidMetH_plain _ _ _ (by kernel_rfl)]; exact laidMet_laidAll _ (by kernel_rfl) (by kernel_rfl)))) ?_
  intro F W base args ds gs before _ hF hval0 hW _ _ _ hL _
  have hval : ∀ (j : Nat) t v, Tryf.f4.params[j]? = some t → args[j]? = some v → Value.okWide Tryf.prog W .any base t v := hval0
  have hW' := hW
  obtain ⟨p, q, hA0, hV, rfl, hfz, hnd⟩ := hW
  have hA : DataW.TrodAll enc Tryf.prog W 0 (fun _ => true) true Tryf.f4.params.toList args.toList ds p := hA0
  rw [Tryf.params4] at hA hval
  obtain ⟨v0, d0, rfl, rfl, h0⟩ := trodAll_one hA
  obtain ⟨rfl, rfl⟩ := trodVars_none hV
  obtain ⟨s, rfl, rfl, rfl, ws⟩ := open_string Tryf.underlying9 (hval 0 9 v0 rfl rfl) h0
  clear hA0 hval0
  refine (walk s ws W (tab_of_laid hL)).mono fun e W' ⟨he, hb⟩ => ?_
  subst he
  refine ⟨_, rfl, _, _, _, [], [], [], hW', ?_, ?_, rfl, hb.frame _, fun h => by cases h⟩
  · exact trodAll_mk1 (shut_bool Tryf.underlying4 _)
  · exact trodAll_mk1 (shut_string Tryf.underlying9 ws)

theorem stopsT : Tryf.pinned.checked.prog.stops = ["fmt.errorf"] := by kernel_rfl
theorem stopKnobsT : Tryf.pinned.checked.prog.stopKnobs = [] := by kernel_rfl
theorem quietT (os : Os) : Stop.quiet Tryf.pinned.checked.prog os := by
  intro k hk
  rw [stopKnobsT] at hk
  cases hk
theorem laidOutT : laidOutB Tryf.pinned.checked.prog = true := by kernel_rfl

theorem proved : Rows.FnParseStampCanonicalToldSaid :=
  Claim7.holds_of_told_tied_any_at .later 4 Tryf.f4 "fmt.errorf" [] [] _ _ _ _ _ (by kernel_rfl) rfl rfl rfl laidOutT (by kernel_rfl) rfl ⟨rfl, rfl, rfl, rfl, rfl, rfl, rfl⟩ rfl rfl (by kernel_rfl) (by kernel_rfl) Tryf.func4 (by kernel_rfl)
    (of_decide_eq_true (by kernel_rfl)) (of_decide_eq_true (by kernel_rfl)) stopsT.symm rfl stopKnobsT.symm (by kernel_rfl)
    (by kernel_rfl) (by kernel_rfl) (by kernel_rfl) (by kernel_rfl) (by kernel_rfl) (by kernel_rfl) (by kernel_rfl) (by kernel_rfl) (by kernel_rfl) rfl (by kernel_rfl) rfl rfl
    rfl rfl
    rfl (by kernel_rfl) (by kernel_rfl) (by kernel_rfl) (by decide) (by kernel_rfl) fnParseStampCanonical_row_tie
    (OpenClaim.moreEntering_of (by kernel_rfl) (by kernel_rfl) (by kernel_rfl) (by kernel_rfl) (by kernel_rfl) (by kernel_rfl) (by kernel_rfl) (by kernel_rfl) (by kernel_rfl) (by kernel_rfl))
    ⟨_, WideRow.started_initial, quietT _⟩
    (fun os started _ H enc _ => lifted os started H enc)
end Go.Proofs.Qxb6002379aFmt
