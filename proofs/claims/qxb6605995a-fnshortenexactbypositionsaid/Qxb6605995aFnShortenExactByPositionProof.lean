/-
  A PROOF OF 'Rows.FnShortenExactByPositionSaid'. The frame (the row's step and what follows it) is the shell that was given with the seat; the walk and the lemmas ahead of it are typed for this program.
-/
import Derived.Test.Qxb6605995aStr
import Derived.WalkKit
import Derived.ProofKit
import Derived.OpenShut
import Derived.ShutString
import Derived.BigQuiet
import Derived.Deep.QuietTactic
namespace Go.Proofs.Qxb6605995a.fnShortenExactByPosition
open Go.ChangeShapes Go.WideShapes Go.ChangeAt Go.RowKit
open Go.ChangeMaps (open_string shut_string)
set_option linter.unusedVariables false      -- a walk need not use every 'w<i>' (that an integer argument fits its kind)

theorem own : ownKnob Try.prog.godebug = none := by kernel_rfl

/-! ### STEP 1: THE WALK: the Go text returns true. 'Grown w w'': the world has at most new blocks (Derived/RowKit3.lean). Part the cases AHEAD of 'go_enter' where a test parts the walk; take each callee by a contract of your own. -/
set_option maxHeartbeats 1000000 in
theorem walk_far (s : ByteArray) (w : World) (h : 1048576 < s.size) :
    Calls Try.prog 5 #[.string s] w fun e w' => e = .returned (.bool true) ∧ Grown w w' := by
  go_enter Try.func5, Try.ntmps5
  go_wp2_with (go_at_call 14; refine (zz14_no _ _ h).mono ?_; rintro e w' ⟨rfl, rfl⟩)
  go_ret
  exact ⟨rfl, Grown.refl _⟩
theorem grown_drewN {w w' : World} (h : Grown w w') : ∀ n, Grown w (w'.drewN n)
  | 0 => h
  | n + 1 => (grown_drewN h n).drew
set_option maxHeartbeats 1000000 in
theorem walk_near (s : ByteArray) (w : World) (h : s.size ≤ 1048576) :
    Calls Try.prog 5 #[.string s] w fun e w' => e = .returned (.bool true) ∧ Grown w w' := by
  obtain ⟨r, hr⟩ : ∃ r, short s = r := ⟨_, rfl⟩
  have hz : r.size = if 16 < s.size then 19 else s.size := by rw [← hr, size_short]
  have hm : s.size ≤ maxLen := by unfold maxLen; omega
  have HR : Hid (short s = r) := hr
  have HR2 : Hid (short r = r) := by rw [← hr]; exact short_short s
  clear hr
  by_cases hl : 16 < s.size
  · rw [if_pos hl] at hz
    have hmr : r.size ≤ maxLen := by unfold maxLen; omega
    have h1 : r.size ≤ 19 := by omega
    have h2 : 19 ≤ r.size := by omega
    clear hz
    go_enter Try.func5, Try.ntmps5
    go_wp2_with (first | (go_at_call 14; refine (zz14_yes _ _ h).mono ?_; rintro e w' ⟨rfl, rfl⟩) | fail)
    refine (shorten_any s w hm r HR).mono ?_
    rintro e w' ⟨rfl, rfl⟩
    go_wp2
    go_loopw [5] (fun i wr => ∃ k : Nat, k ≤ r.size ∧ i = .int .i64 k ∧ Grown w wr) (fun i _ => r.size - (intOf i).toNat)
    case atStart => exact ⟨0, Nat.zero_le _, rfl, Grown.refl _⟩
    case round =>
      obtain ⟨k, hk, rfl, hg⟩ := hrel
      by_cases hlt : k < r.size
      · by_cases h16 : k < 16
        · have hks : k < s.size := by omega
          go_wp2
          go_quiet (fail)
          go_wp2
          · exfalso
            have ht : ((r[k].toNat : Int) != (s[k].toNat : Int)) = true := by assumption
            rw [short_at HR.out k hlt hks h16] at ht
            simp at ht
          · go_roundw
            case rel => exact ⟨k + 1, by omega, by go_num, grown_drewN hg nq⟩
            case measure => simp [intOf]; omega
        · go_wp2
          · exfalso
            have ht : ((r[k].toNat : Int) != 46) = true := by assumption
            rw [short_dot HR.out k hlt (by omega)] at ht
            simp at ht
          · go_roundw
            case rel => exact ⟨k + 1, by omega, by go_num, hg⟩
            case measure => simp [intOf]; omega
      · go_wp2_with fail
        refine (shorten_any r wr hmr r HR2).mono ?_
        rintro e w' ⟨rfl, rfl⟩
        go_wp2
        go_ret
        exact ⟨rfl, hg⟩
  · rw [if_neg hl] at hz
    have hmr : r.size ≤ maxLen := by unfold maxLen; omega
    have h1 : r.size ≤ s.size := by omega
    have h2 : s.size ≤ r.size := by omega
    clear hz
    go_enter Try.func5, Try.ntmps5
    go_wp2_with (first | (go_at_call 14; refine (zz14_yes _ _ h).mono ?_; rintro e w' ⟨rfl, rfl⟩) | fail)
    refine (shorten_any s w hm r HR).mono ?_
    rintro e w' ⟨rfl, rfl⟩
    go_wp2
    go_loopw [5] (fun i wr => ∃ k : Nat, k ≤ r.size ∧ i = .int .i64 k ∧ Grown w wr) (fun i _ => r.size - (intOf i).toNat)
    case atStart => exact ⟨0, Nat.zero_le _, rfl, Grown.refl _⟩
    case round =>
      obtain ⟨k, hk, rfl, hg⟩ := hrel
      by_cases hlt : k < r.size
      · by_cases h16 : k < 16
        · have hks : k < s.size := by omega
          go_wp2
          go_quiet (fail)
          go_wp2
          · exfalso
            have ht : ((r[k].toNat : Int) != (s[k].toNat : Int)) = true := by assumption
            rw [short_at HR.out k hlt hks h16] at ht
            simp at ht
          · go_roundw
            case rel => exact ⟨k + 1, by omega, by go_num, grown_drewN hg nq⟩
            case measure => simp [intOf]; omega
        · exfalso; omega
      · go_wp2_with fail
        refine (shorten_any r wr hmr r HR2).mono ?_
        rintro e w' ⟨rfl, rfl⟩
        go_wp2
        go_ret
        exact ⟨rfl, hg⟩
theorem walk (a0 : ByteArray) (w0 : a0.size ≤ maxLen) (w : World) :
    Calls Try.prog 5 #[.string a0] w fun e w' => e = .returned (.bool true) ∧ Grown w w' := by
  by_cases h : 1048576 < a0.size
  · exact walk_far a0 w h
  · exact walk_near a0 w (by omega)

/-! ### THE ROW's STEP: WRITTEN OUT: LEAVE IT -/
set_option maxRecDepth 100000 in
theorem lifted (os : Os) (started : os.Started) (H : Type) (enc : TypeId × Value → H) :
    ReturnsInHanded {} Try.checked os 5 .any (Rows.fnShortenExactByPositionSpec.pre6 enc Try.prog Try.f5 Rows.fnShortenExactByPositionRow.domain false) (Rows.fnShortenExactByPositionSpec.post enc Try.prog Try.f5 false true false false) := by
  refine returnsInHanded_of_change (C := Try.checked) own started (by kernel_rfl) Try.func5
    (ChangeSpec.witness6 (enc := enc) (C := Try.checked) false ⟨#[], #[.string ByteArray.empty], []⟩ 8 (by kernel_rfl) (by kernel_rfl) (by kernel_rfl) (by kernel_rfl)) ?_
  intro W base args ds gs before hval0 hW hcnd _
  have hval : ∀ (j : Nat) t v, Try.f5.params[j]? = some t → args[j]? = some v → Value.okWide Try.prog W .any base t v := hval0
  have hW' := hW
  obtain ⟨p, q, hA0, hV, rfl, hfz, hnd⟩ := hW
  have hA : DataW.TrodAll enc Try.prog W 0 (fun _ => true) true Try.f5.params.toList args.toList ds p := hA0
  rw [Try.params5] at hA hval
  obtain ⟨v0, vs0, d0, ds0, p0, q0, hargs, rfl, rfl, h0, r0⟩ := trodAll_cons hA
  obtain ⟨rfl, rfl, rfl⟩ := trodAll_nil r0
  obtain rfl : args = #[v0] := by cases args; simp_all
  obtain ⟨rfl, rfl⟩ := trodVars_none hV
  obtain ⟨a0, rfl, rfl, rfl, w0⟩ := open_string Try.underlying9 (hval 0 9 v0 rfl rfl) h0
  clear hA0 hval0
  simp only [List.append_nil] at hW'
  refine (walk a0 w0 W).mono fun e W' ⟨he, hg⟩ => ?_
  subst he
  exact ⟨_, rfl, post_of_same (pa := []) (pv := []) hW' (fun _ _ _ => (trodAll_cons_mk (shut_bool Try.underlying4 _) trodAll_mk0)) (fun sp _ => (trodAll_cons_mk (shut_string Try.underlying9 w0) trodAll_mk0)) (fun _ _ => rfl) rfl
    (hg.frame _) hg.2.1 (ok_one (by kernel_rfl) rfl (okWide_bool_mk Try.underlying4 _))⟩

theorem over : Rows.fnShortenExactByPositionRow.holds Try.pinned (OpenSpec.ofChange Rows.fnShortenExactByPositionSpec) :=
  OpenClaim.holds_of_wide 5 Try.f5 rfl rfl rfl rfl rfl rfl rfl ⟨rfl, rfl, rfl, rfl, rfl⟩ rfl rfl rfl rfl rfl (by kernel_rfl) Try.func5 (by kernel_rfl)
    (of_decide_eq_true (by kernel_rfl)) (by unfold Func.isWrapper; first | (rw [if_pos (by decide +kernel)]; kernel_rfl) | (rw [if_neg (by decide +kernel)]; exact ⟨rfl, rfl⟩))
    (fun os started H enc _ => lifted os started H enc)

/-- ████ THE STATEMENT ████ -/
theorem proved : Rows.FnShortenExactByPositionSaid :=
  over
#print axioms proved
end Go.Proofs.Qxb6605995a.fnShortenExactByPosition
