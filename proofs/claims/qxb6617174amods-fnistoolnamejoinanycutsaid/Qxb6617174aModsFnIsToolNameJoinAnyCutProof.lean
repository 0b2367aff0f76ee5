/-
  The proof of 'Rows.FnIsToolNameJoinAnyCutSaid', over the template's frame; the walk is filled in by hand.
-/
import Derived.Test.Qxb6617174aModsRows
import Derived.Test.Qxb6617174aModsToolWalks
import Derived.WalkKit
import Derived.ProofKit
import Derived.OpenShut
import Derived.ShutString
namespace Go.Proofs.Qxb6617174aMods.fnIsToolNameJoinAnyCut
open Go.ChangeShapes Go.WideShapes Go.ChangeAt Go.RowKit
open Go.ChangeMaps (open_string shut_string)
set_option linter.unusedVariables false      -- a walk need not use every 'w<i>' (that an integer argument fits its kind)

theorem own : ownKnob Trym.prog.godebug = none := by kernel_rfl

set_option maxHeartbeats 8000000 in
/-- The walk behind the bounds: the three verdicts as Bool constants, the tests decided ahead. -/
theorem core (a0 a1 : ByteArray) (ta tb tab ea eb : Bool) (w : World) (g0 : a0.size ≤ 65536) (g1 : a1.size ≤ 65536)
    (Ha : Hid (Tool.tool a0 = ta)) (Hb : Hid (Tool.tool a1 = tb)) (Hab : Hid (Tool.tool (a0 ++ a1) = tab))
    (hea : a0.toList.isEmpty = ea) (heb : a1.toList.isEmpty = eb)
    (Hw : Hid (tab = if 1 ≤ a0.size + a1.size ∧ a0.size + a1.size ≤ 64 then (ea || ta) && (eb || tb) else false)) :
    Calls Trym.prog 3 #[.string a0, .string a1] w fun e w' => e = .returned (.bool true) ∧ Grown w w' := by
  have m0 : a0.size ≤ maxLen := by unfold maxLen; omega
  have m1 : a1.size ≤ maxLen := by unfold maxLen; omega
  have m01 : (a0 ++ a1).size ≤ maxLen := by rw [ByteArray.size_append]; unfold maxLen; omega
  have hby : a0.size + a1.size ≤ 1048576 := by omega
  by_cases hin : 1 ≤ a0.size + a1.size ∧ a0.size + a1.size ≤ 64
  · have hw := Hw.out
    rw [if_pos hin] at hw
    subst hw
    clear Hw
    obtain ⟨n1, n64⟩ := hin
    cases ea <;> cases eb <;> cases ta <;> cases tb
    all_goals
      go_enter Trym.func3, Trym.ntmps3
      go_wp2_with (first | (go_at_call 5; refine (Tool.bytes_yes _ _ _ hby).mono ?_; rintro e w' ⟨rfl, rfl⟩) | fail)
      refine (Tool.zzis_is _ _ _ m01 Hab).mono ?_
      rintro e w1 ⟨rfl, hg1⟩
      go_wp2_with fail
      refine (Tool.zzis_is _ _ _ m0 Ha).mono ?_
      rintro e w2 ⟨rfl, hg2⟩
      go_wp2_with fail
      refine (Tool.zzis_is _ _ _ m1 Hb).mono ?_
      rintro e w3 ⟨rfl, hg3⟩
      go_wp2_with fail
      refine (Tool.model_is _ _ _ m0 Ha).mono ?_
      rintro e w4 ⟨rfl, hw4⟩
      subst hw4
      go_wp2_with fail
      refine (Tool.model_is _ _ _ m1 Hb).mono ?_
      rintro e w5 ⟨rfl, hw5⟩
      subst hw5
      go_wp2_with fail
      go_ret
      exact ⟨rfl, Tool.grown_trans hg1 (Tool.grown_trans hg2 hg3)⟩
  · have hw := Hw.out
    rw [if_neg hin] at hw
    subst hw
    clear Hw
    have hout : (a0.size : Int) + a1.size < 1 ∨ 64 < (a0.size : Int) + a1.size := by omega
    clear hin hea heb
    cases ta <;> cases tb <;> rcases hout with hlo | hhi
    all_goals
      go_enter Trym.func3, Trym.ntmps3
      go_wp2_with (first | (go_at_call 5; refine (Tool.bytes_yes _ _ _ hby).mono ?_; rintro e w' ⟨rfl, rfl⟩) | fail)
      refine (Tool.zzis_is _ _ _ m01 Hab).mono ?_
      rintro e w1 ⟨rfl, hg1⟩
      go_wp2_with fail
      refine (Tool.zzis_is _ _ _ m0 Ha).mono ?_
      rintro e w2 ⟨rfl, hg2⟩
      go_wp2_with fail
      refine (Tool.zzis_is _ _ _ m1 Hb).mono ?_
      rintro e w3 ⟨rfl, hg3⟩
      go_wp2_with fail
      refine (Tool.model_is _ _ _ m0 Ha).mono ?_
      rintro e w4 ⟨rfl, hw4⟩
      subst hw4
      go_wp2_with fail
      refine (Tool.model_is _ _ _ m1 Hb).mono ?_
      rintro e w5 ⟨rfl, hw5⟩
      subst hw5
      go_wp2_with fail
      go_ret
      exact ⟨rfl, Tool.grown_trans hg1 (Tool.grown_trans hg2 hg3)⟩

/-! ### STEP 1: THE WALK: the Go text returns true. 'Grown w w'': the world has at most new blocks (Derived/RowKit3.lean). Part the cases AHEAD of 'go_enter' where a test parts the walk; take each callee by a contract of your own. -/
theorem walk (a0 : ByteArray) (a1 : ByteArray) (w0 : a0.size ≤ maxLen) (w1 : a1.size ≤ maxLen) (w : World) :
    Calls Trym.prog 3 #[.string a0, .string a1] w fun e w' => e = .returned (.bool true) ∧ Grown w w' := by
  by_cases hby : 1048576 < a0.size + a1.size
  · go_enter Trym.func3, Trym.ntmps3
    go_wp2_with (go_at_call 5; refine (Tool.bytes_no _ _ _ w0 w1 hby).mono ?_; rintro e w' ⟨rfl, rfl⟩)
    go_ret
    exact ⟨rfl, Grown.refl _⟩
  have hby' : a0.size + a1.size ≤ 1048576 := by omega
  clear hby
  by_cases h0 : 65536 < a0.size
  · go_enter Trym.func3, Trym.ntmps3
    go_wp2_with (go_at_call 5; refine (Tool.bytes_yes _ _ _ hby').mono ?_; rintro e w' ⟨rfl, rfl⟩)
    go_ret
    exact ⟨rfl, Grown.refl _⟩
  have g0 : a0.size ≤ 65536 := by omega
  clear h0
  by_cases h1 : 65536 < a1.size
  · go_enter Trym.func3, Trym.ntmps3
    go_wp2_with (go_at_call 5; refine (Tool.bytes_yes _ _ _ hby').mono ?_; rintro e w' ⟨rfl, rfl⟩)
    go_ret
    exact ⟨rfl, Grown.refl _⟩
  have g1 : a1.size ≤ 65536 := by omega
  clear h1
  refine core a0 a1 _ _ _ _ _ w g0 g1 rfl rfl rfl rfl rfl ?_
  rw [Hid, Tool.join, Tool.isEmpty_size, Tool.isEmpty_size]

/-! ### THE ROW's STEP: WRITTEN OUT: LEAVE IT -/
set_option maxRecDepth 100000 in
theorem lifted (os : Os) (started : os.Started) (H : Type) (enc : TypeId × Value → H) :
    ReturnsInHanded {} Trym.checked os 3 .any (Rows.fnIsToolNameJoinAnyCutSpec.pre6 enc Trym.prog Trym.f3 Rows.fnIsToolNameJoinAnyCutRow.domain false) (Rows.fnIsToolNameJoinAnyCutSpec.post enc Trym.prog Trym.f3 false true false false) := by
  refine returnsInHanded_of_change (C := Trym.checked) own started (by kernel_rfl) Trym.func3
    (ChangeSpec.witness6 (enc := enc) (C := Trym.checked) false ⟨#[], #[.string ByteArray.empty, .string ByteArray.empty], []⟩ 8 (by kernel_rfl) (by kernel_rfl) (by kernel_rfl) (by kernel_rfl)) ?_
  intro W base args ds gs before hval0 hW hcnd _
  have hval : ∀ (j : Nat) t v, Trym.f3.params[j]? = some t → args[j]? = some v → Value.okWide Trym.prog W .any base t v := hval0
  have hW' := hW
  obtain ⟨p, q, hA0, hV, rfl, hfz, hnd⟩ := hW
  have hA : DataW.TrodAll enc Trym.prog W 0 (fun _ => true) true Trym.f3.params.toList args.toList ds p := hA0
  rw [Trym.params3] at hA hval
  obtain ⟨v0, vs0, d0, ds0, p0, q0, hargs, rfl, rfl, h0, r0⟩ := trodAll_cons hA
  obtain ⟨v1, vs1, d1, ds1, p1, q1, rfl, rfl, rfl, h1, r1⟩ := trodAll_cons r0
  obtain ⟨rfl, rfl, rfl⟩ := trodAll_nil r1
  obtain rfl : args = #[v0, v1] := by cases args; simp_all
  obtain ⟨rfl, rfl⟩ := trodVars_none hV
  obtain ⟨a0, rfl, rfl, rfl, w0⟩ := open_string Trym.underlying9 (hval 0 9 v0 rfl rfl) h0
  obtain ⟨a1, rfl, rfl, rfl, w1⟩ := open_string Trym.underlying9 (hval 1 9 v1 rfl rfl) h1
  clear hA0 hval0
  simp only [List.append_nil] at hW'
  refine (walk a0 a1 w0 w1 W).mono fun e W' ⟨he, hg⟩ => ?_
  subst he
  exact ⟨_, rfl, post_of_same (pa := []) (pv := []) hW' (fun _ _ _ => (trodAll_cons_mk (shut_bool Trym.underlying4 _) trodAll_mk0)) (fun sp _ => (trodAll_cons_mk (shut_string Trym.underlying9 w0) (trodAll_cons_mk (shut_string Trym.underlying9 w1) trodAll_mk0))) (fun _ _ => rfl) rfl
    (hg.frame _) hg.2.1 (ok_one (by kernel_rfl) rfl (okWide_bool_mk Trym.underlying4 _))⟩

theorem over : Rows.fnIsToolNameJoinAnyCutRow.holds Trym.pinned (OpenSpec.ofChange Rows.fnIsToolNameJoinAnyCutSpec) :=
  OpenClaim.holds_of_wide 3 Trym.f3 rfl rfl rfl rfl rfl rfl rfl ⟨rfl, rfl, rfl, rfl, rfl⟩ rfl rfl rfl rfl rfl (by kernel_rfl) Trym.func3 (by kernel_rfl)
    (of_decide_eq_true (by kernel_rfl)) (by unfold Func.isWrapper; first | (rw [if_pos (by decide +kernel)]; kernel_rfl) | (rw [if_neg (by decide +kernel)]; exact ⟨rfl, rfl⟩))
    (fun os started H enc _ => lifted os started H enc)

/-- ████ THE STATEMENT ████ -/
theorem proved : Rows.FnIsToolNameJoinAnyCutSaid :=
  over
end Go.Proofs.Qxb6617174aMods.fnIsToolNameJoinAnyCut
