/-
  A PROOF OF 'Rows.FnTrimHexPrefixUndoesPrefixRefusesOthersSaid'. The frame (the row's step and what follows it) is the shell that was given with the seat; the walk and the lemmas ahead of it are typed for this program.
-/
import Derived.Test.Qxb6608518aTrim
import Derived.WalkKit
import Derived.ProofKit
import Derived.OpenShut
import Derived.ShutString
namespace Go.Proofs.Qxb6608518a.fnTrimHexPrefixUndoesPrefixRefusesOthers
open Go.ChangeShapes Go.WideShapes Go.ChangeAt Go.RowKit
open Go.ChangeMaps (open_string shut_string)
set_option linter.unusedVariables false      -- a walk need not use every 'w<i>' (that an integer argument fits its kind)

theorem own : ownKnob Try.prog.godebug = none := by kernel_rfl

/-! ### STEP 1: THE WALK: the Go text returns true. 'Grown w w'': the world has at most new blocks (Derived/RowKit3.lean). Part the cases AHEAD of 'go_enter' where a test parts the walk; take each callee by a contract of your own. -/
set_option maxHeartbeats 1000000 in
theorem walk_far (s : ByteArray) (w : World) (h : 1048576 < s.size) :
    Calls Try.prog 3 #[.string s] w fun e w' => e = .returned (.bool true) ∧ Grown w w' := by
  go_enter Try.func3, Try.ntmps3
  go_wp2_with (go_at_call 5; refine (zz5_no _ _ h).mono ?_; rintro e w' ⟨rfl, rfl⟩)
  go_ret
  exact ⟨rfl, Grown.refl _⟩
set_option maxHeartbeats 1000000 in
theorem walk_near (s : ByteArray) (w : World) (h : s.size ≤ 1048576) :
    Calls Try.prog 3 #[.string s] w fun e w' => e = .returned (.bool true) ∧ Grown w w' := by
  have H1 : Hid (trim ({ data := #[48, 120] } ++ s) = s) := trim_yes _ s 120 (by rw [data_glue]; rfl) (.inl rfl)
  have H2 : Hid (trim ({ data := #[48, 88] } ++ s) = s) := trim_yes _ s 88 (by rw [data_glue]; rfl) (.inr rfl)
  have H3 : Hid (trim ({ data := #[120, 48, 120] } ++ s) = { data := #[120, 48, 120] } ++ s) := trim_no _ (by rw [data_glue]; simp)
  have H4 : Hid (trim ({ data := #[48, 48, 120] } ++ s) = { data := #[48, 48, 120] } ++ s) := trim_no _ (by rw [data_glue]; simp)
  go_enter Try.func3, Try.ntmps3
  go_wp2_with (first | (go_at_call 5; refine (zz5_yes _ _ h).mono ?_; rintro e w' ⟨rfl, rfl⟩) | fail)
  refine (trim_any _ w (by rw [ByteArray.size_append]; unfold maxLen; show 2 + _ ≤ _; omega) s H1).mono ?_
  rintro e w' ⟨rfl, rfl⟩
  go_wp2_with fail
  refine (trim_any _ w (by rw [ByteArray.size_append]; unfold maxLen; show 2 + _ ≤ _; omega) s H2).mono ?_
  rintro e w' ⟨rfl, rfl⟩
  go_wp2_with fail
  refine (trim_any _ w (by rw [ByteArray.size_append]; unfold maxLen; show 3 + _ ≤ _; omega) _ H3).mono ?_
  rintro e w' ⟨rfl, rfl⟩
  go_wp2_with fail
  refine (trim_any _ w (by rw [ByteArray.size_append]; unfold maxLen; show 3 + _ ≤ _; omega) _ H4).mono ?_
  rintro e w' ⟨rfl, rfl⟩
  go_wp2
  go_ret
  exact ⟨rfl, Grown.refl _⟩
theorem walk (a0 : ByteArray) (w0 : a0.size ≤ maxLen) (w : World) :
    Calls Try.prog 3 #[.string a0] w fun e w' => e = .returned (.bool true) ∧ Grown w w' := by
  by_cases h : 1048576 < a0.size
  · exact walk_far a0 w h
  · exact walk_near a0 w (by omega)

/-! ### THE ROW's STEP: WRITTEN OUT: LEAVE IT -/
set_option maxRecDepth 100000 in
theorem lifted (os : Os) (started : os.Started) (H : Type) (enc : TypeId × Value → H) :
    ReturnsInHanded {} Try.checked os 3 .any (Rows.fnTrimHexPrefixUndoesPrefixRefusesOthersSpec.pre6 enc Try.prog Try.f3 Rows.fnTrimHexPrefixUndoesPrefixRefusesOthersRow.domain false) (Rows.fnTrimHexPrefixUndoesPrefixRefusesOthersSpec.post enc Try.prog Try.f3 false true false false) := by
  refine returnsInHanded_of_change (C := Try.checked) own started (by kernel_rfl) Try.func3
    (ChangeSpec.witness6 (enc := enc) (C := Try.checked) false ⟨#[], #[.string ByteArray.empty], []⟩ 8 (by kernel_rfl) (by kernel_rfl) (by kernel_rfl) (by kernel_rfl)) ?_
  intro W base args ds gs before hval0 hW hcnd _
  have hval : ∀ (j : Nat) t v, Try.f3.params[j]? = some t → args[j]? = some v → Value.okWide Try.prog W .any base t v := hval0
  have hW' := hW
  obtain ⟨p, q, hA0, hV, rfl, hfz, hnd⟩ := hW
  have hA : DataW.TrodAll enc Try.prog W 0 (fun _ => true) true Try.f3.params.toList args.toList ds p := hA0
  rw [Try.params3] at hA hval
  obtain ⟨v0, vs0, d0, ds0, p0, q0, hargs, rfl, rfl, h0, r0⟩ := trodAll_cons hA
  obtain ⟨rfl, rfl, rfl⟩ := trodAll_nil r0
  obtain rfl : args = #[v0] := by cases args; simp_all
  obtain ⟨rfl, rfl⟩ := trodVars_none hV
  obtain ⟨a0, rfl, rfl, rfl, w0⟩ := open_string Try.underlying9 (hval 0 9 v0 rfl rfl) h0
  clear hA0 hval0
  simp only [List.append_nil] at hW'
  refine (walk a0 w0 W).mono fun e W' ⟨he, hg⟩ => ?_
  subst he
  exact ⟨_, rfl, post_of_same (pa := []) (pv := []) hW' (fun _ _ _ => (trodAll_cons_mk (shut_bool Try.underlying4 _) trodAll_mk0)) (fun sp _ => (trodAll_cons_mk (shut_string Try.underlying9 w0) trodAll_mk0)) (fun _ _ => rfl) rfl
    (hg.frame _) hg.2.1 (ok_one (by kernel_rfl) rfl (okWide_bool_mk Try.underlying4 _))⟩

theorem over : Rows.fnTrimHexPrefixUndoesPrefixRefusesOthersRow.holds Try.pinned (OpenSpec.ofChange Rows.fnTrimHexPrefixUndoesPrefixRefusesOthersSpec) :=
  OpenClaim.holds_of_wide 3 Try.f3 rfl rfl rfl rfl rfl rfl rfl ⟨rfl, rfl, rfl, rfl, rfl⟩ rfl rfl rfl rfl rfl (by kernel_rfl) Try.func3 (by kernel_rfl)
    (of_decide_eq_true (by kernel_rfl)) (by unfold Func.isWrapper; first | (rw [if_pos (by decide +kernel)]; kernel_rfl) | (rw [if_neg (by decide +kernel)]; exact ⟨rfl, rfl⟩))
    (fun os started H enc _ => lifted os started H enc)

/-- ████ THE STATEMENT ████ -/
theorem proved : Rows.FnTrimHexPrefixUndoesPrefixRefusesOthersSaid :=
  over
#print axioms proved
end Go.Proofs.Qxb6608518a.fnTrimHexPrefixUndoesPrefixRefusesOthers
