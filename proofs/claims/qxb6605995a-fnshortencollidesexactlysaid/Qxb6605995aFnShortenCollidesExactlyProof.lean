/-
  A PROOF OF 'Rows.FnShortenCollidesExactlySaid'. The frame (the row's step and what follows it) is the shell that was given with the seat; the walk and the lemmas ahead of it are typed for this program.
-/
import Derived.Test.Qxb6605995aStr
import Derived.WalkKit
import Derived.ProofKit
import Derived.OpenShut
import Derived.ShutString
import Derived.BigQuiet
import Derived.Deep.QuietTactic
namespace Go.Proofs.Qxb6605995a.fnShortenCollidesExactly
open Go.ChangeShapes Go.WideShapes Go.ChangeAt Go.RowKit
open Go.ChangeMaps (open_string shut_string)
set_option linter.unusedVariables false      -- a walk need not use every 'w<i>' (that an integer argument fits its kind)

theorem own : ownKnob Try.prog.godebug = none := by kernel_rfl

/-! ### STEP 1: THE WALK: the Go text returns true. 'Grown w w'': the world has at most new blocks (Derived/RowKit3.lean). Part the cases AHEAD of 'go_enter' where a test parts the walk; take each callee by a contract of your own. -/
set_option maxHeartbeats 1000000 in
theorem walk_far (s t : ByteArray) (w : World) (hs : s.size ≤ maxLen) (ht : t.size ≤ maxLen) (h : 1048576 < s.size + t.size) :
    Calls Try.prog 6 #[.string s, .string t] w fun e w' => e = .returned (.bool true) ∧ Grown w w' := by
  go_enter Try.func6, Try.ntmps6
  go_wp2_with (go_at_call 16; refine (zz16_no _ _ _ hs ht h).mono ?_; rintro e w' ⟨rfl, rfl⟩)
  go_ret
  exact ⟨rfl, Grown.refl _⟩
set_option maxHeartbeats 1000000 in
theorem walk_far1 (s t : ByteArray) (w : World) (h : s.size + t.size ≤ 1048576) (h1 : 524288 < s.size) :
    Calls Try.prog 6 #[.string s, .string t] w fun e w' => e = .returned (.bool true) ∧ Grown w w' := by
  go_enter Try.func6, Try.ntmps6
  go_wp2_with (go_at_call 16; refine (zz16_yes _ _ _ h).mono ?_; rintro e w' ⟨rfl, rfl⟩)
  go_ret
  exact ⟨rfl, Grown.refl _⟩
set_option maxHeartbeats 1000000 in
theorem walk_far2 (s t : ByteArray) (w : World) (h : s.size + t.size ≤ 1048576) (h1 : s.size ≤ 524288) (h2 : 524288 < t.size) :
    Calls Try.prog 6 #[.string s, .string t] w fun e w' => e = .returned (.bool true) ∧ Grown w w' := by
  go_enter Try.func6, Try.ntmps6
  go_wp2_with (go_at_call 16; refine (zz16_yes _ _ _ h).mono ?_; rintro e w' ⟨rfl, rfl⟩)
  go_ret
  exact ⟨rfl, Grown.refl _⟩
theorem beqL (a b : ByteArray) : (a.toList == b.toList) = decide (a = b) := by
  rw [ByteArray.toList_eq, ByteArray.toList_eq, Bool.eq_iff_iff]
  simp only [beq_iff_eq, decide_eq_true_eq]
  constructor
  · intro h; cases a; cases b; simp only [Array.toList_inj] at h; rw [h]
  · rintro rfl; rfl
theorem ret_bool {a b : Bool} (h : a = b) : Ending.returned (.bool a) = .returned (.bool b) := by rw [h]
theorem fin1 {s t r q : ByteArray} (HR : Hid (short s = r)) (HQ : Hid (short t = q)) (hl : 16 < s.size) (hl2 : 16 < t.size) (he : ((s.extract 0 16).toList == (t.extract 0 16).toList) = true) : (r.toList == q.toList) = true := by
  rw [beqL] at he ⊢
  have he' : s.extract 0 16 = t.extract 0 16 := of_decide_eq_true he
  rw [← HR.out, ← HQ.out]
  exact decide_eq_true ((short_eq_iff s t).2 (.inr ⟨hl, hl2, he'⟩))
theorem fin2 {s t r q : ByteArray} (HR : Hid (short s = r)) (HQ : Hid (short t = q)) (he : ¬ (16 < s.size ∧ 16 < t.size ∧ s.extract 0 16 = t.extract 0 16)) : ((r.toList == q.toList) == (s.toList == t.toList)) = true := by
  rw [beqL, beqL, ← HR.out, ← HQ.out]
  have h := short_eq_iff s t
  have h2 : short s = short t ↔ s = t := ⟨fun k => (h.1 k).elim id (fun k => absurd k he), fun k => h.2 (.inl k)⟩
  have h3 : decide (short s = short t) = decide (s = t) := decide_eq_decide.2 h2
  rw [h3]
  simp
theorem grown_drewN {w w' : World} (h : Grown w w') : ∀ n, Grown w (w'.drewN n)
  | 0 => h
  | n + 1 => (grown_drewN h n).drew
set_option maxHeartbeats 1000000 in
theorem walk_near (s t : ByteArray) (w : World) (h1 : s.size ≤ 524288) (h2 : t.size ≤ 524288) :
    Calls Try.prog 6 #[.string s, .string t] w fun e w' => e = .returned (.bool true) ∧ Grown w w' := by
  obtain ⟨r, hr⟩ : ∃ r, short s = r := ⟨_, rfl⟩
  obtain ⟨q, hq⟩ : ∃ q, short t = q := ⟨_, rfl⟩
  have hm : s.size ≤ maxLen := by unfold maxLen; omega
  have hm2 : t.size ≤ maxLen := by unfold maxLen; omega
  have HR : Hid (short s = r) := hr
  have HQ : Hid (short t = q) := hq
  clear hr hq
  by_cases hl : 16 < s.size
  · have hd1 : decide ((16 : Int) < (s.size : Int)) = true := by simp; omega
    by_cases hl2 : 16 < t.size
    · have hd2 : decide ((16 : Int) < (t.size : Int)) = true := by simp; omega
      go_enter Try.func6, Try.ntmps6
      go_wp2_with (first | (go_at_call 16; refine (zz16_yes _ _ _ (by omega)).mono ?_; rintro e w' ⟨rfl, rfl⟩) | fail)
      refine (shorten_any s w hm r HR).mono ?_
      rintro e w' ⟨rfl, rfl⟩
      go_wp2_with fail
      refine (shorten_any t w hm2 q HQ).mono ?_
      rintro e w' ⟨rfl, rfl⟩
      go_wp2
      go_quiet (fail)
      go_wp2
      · have he : ((s.extract 0 16).toList == (t.extract 0 16).toList) = true := by assumption
        go_ret
        exact ⟨ret_bool (fin1 HR HQ hl hl2 he), grown_drewN (Grown.refl _) nq⟩
      · have he : ((s.extract 0 16).toList == (t.extract 0 16).toList) = false := by assumption
        go_ret
        exact ⟨ret_bool (fin2 HR HQ (fun k => by rw [k.2.2] at he; simp at he)), grown_drewN (Grown.refl _) nq⟩
    · have hd2 : decide ((16 : Int) < (t.size : Int)) = false := by simp; omega
      go_enter Try.func6, Try.ntmps6
      go_wp2_with (first | (go_at_call 16; refine (zz16_yes _ _ _ (by omega)).mono ?_; rintro e w' ⟨rfl, rfl⟩) | fail)
      refine (shorten_any s w hm r HR).mono ?_
      rintro e w' ⟨rfl, rfl⟩
      go_wp2_with fail
      refine (shorten_any t w hm2 q HQ).mono ?_
      rintro e w' ⟨rfl, rfl⟩
      go_wp2
      go_quiet (fail)
      go_wp2
      go_ret
      exact ⟨ret_bool (fin2 HR HQ (fun k => hl2 k.2.1)), grown_drewN (Grown.refl _) nq⟩
  · have hd1 : decide ((16 : Int) < (s.size : Int)) = false := by simp; omega
    go_enter Try.func6, Try.ntmps6
    go_wp2_with (first | (go_at_call 16; refine (zz16_yes _ _ _ (by omega)).mono ?_; rintro e w' ⟨rfl, rfl⟩) | fail)
    refine (shorten_any s w hm r HR).mono ?_
    rintro e w' ⟨rfl, rfl⟩
    go_wp2_with fail
    refine (shorten_any t w hm2 q HQ).mono ?_
    rintro e w' ⟨rfl, rfl⟩
    go_wp2
    go_quiet (fail)
    go_wp2
    go_ret
    exact ⟨ret_bool (fin2 HR HQ (fun k => hl k.1)), grown_drewN (Grown.refl _) nq⟩
theorem walk (a0 : ByteArray) (a1 : ByteArray) (w0 : a0.size ≤ maxLen) (w1 : a1.size ≤ maxLen) (w : World) :
    Calls Try.prog 6 #[.string a0, .string a1] w fun e w' => e = .returned (.bool true) ∧ Grown w w' := by
  by_cases h : 1048576 < a0.size + a1.size
  · exact walk_far a0 a1 w w0 w1 h
  by_cases h1 : 524288 < a0.size
  · exact walk_far1 a0 a1 w (by omega) h1
  by_cases h2 : 524288 < a1.size
  · exact walk_far2 a0 a1 w (by omega) (by omega) h2
  · exact walk_near a0 a1 w (by omega) (by omega)

/-! ### THE ROW's STEP: WRITTEN OUT: LEAVE IT -/
set_option maxRecDepth 100000 in
theorem lifted (os : Os) (started : os.Started) (H : Type) (enc : TypeId × Value → H) :
    ReturnsInHanded {} Try.checked os 6 .any (Rows.fnShortenCollidesExactlySpec.pre6 enc Try.prog Try.f6 Rows.fnShortenCollidesExactlyRow.domain false) (Rows.fnShortenCollidesExactlySpec.post enc Try.prog Try.f6 false true false false) := by
  refine returnsInHanded_of_change (C := Try.checked) own started (by kernel_rfl) Try.func6
    (ChangeSpec.witness6 (enc := enc) (C := Try.checked) false ⟨#[], #[.string ByteArray.empty, .string ByteArray.empty], []⟩ 8 (by kernel_rfl) (by kernel_rfl) (by kernel_rfl) (by kernel_rfl)) ?_
  intro W base args ds gs before hval0 hW hcnd _
  have hval : ∀ (j : Nat) t v, Try.f6.params[j]? = some t → args[j]? = some v → Value.okWide Try.prog W .any base t v := hval0
  have hW' := hW
  obtain ⟨p, q, hA0, hV, rfl, hfz, hnd⟩ := hW
  have hA : DataW.TrodAll enc Try.prog W 0 (fun _ => true) true Try.f6.params.toList args.toList ds p := hA0
  rw [Try.params6] at hA hval
  obtain ⟨v0, vs0, d0, ds0, p0, q0, hargs, rfl, rfl, h0, r0⟩ := trodAll_cons hA
  obtain ⟨v1, vs1, d1, ds1, p1, q1, rfl, rfl, rfl, h1, r1⟩ := trodAll_cons r0
  obtain ⟨rfl, rfl, rfl⟩ := trodAll_nil r1
  obtain rfl : args = #[v0, v1] := by cases args; simp_all
  obtain ⟨rfl, rfl⟩ := trodVars_none hV
  obtain ⟨a0, rfl, rfl, rfl, w0⟩ := open_string Try.underlying9 (hval 0 9 v0 rfl rfl) h0
  obtain ⟨a1, rfl, rfl, rfl, w1⟩ := open_string Try.underlying9 (hval 1 9 v1 rfl rfl) h1
  clear hA0 hval0
  simp only [List.append_nil] at hW'
  refine (walk a0 a1 w0 w1 W).mono fun e W' ⟨he, hg⟩ => ?_
  subst he
  exact ⟨_, rfl, post_of_same (pa := []) (pv := []) hW' (fun _ _ _ => (trodAll_cons_mk (shut_bool Try.underlying4 _) trodAll_mk0)) (fun sp _ => (trodAll_cons_mk (shut_string Try.underlying9 w0) (trodAll_cons_mk (shut_string Try.underlying9 w1) trodAll_mk0))) (fun _ _ => rfl) rfl
    (hg.frame _) hg.2.1 (ok_one (by kernel_rfl) rfl (okWide_bool_mk Try.underlying4 _))⟩

theorem over : Rows.fnShortenCollidesExactlyRow.holds Try.pinned (OpenSpec.ofChange Rows.fnShortenCollidesExactlySpec) :=
  OpenClaim.holds_of_wide 6 Try.f6 rfl rfl rfl rfl rfl rfl rfl ⟨rfl, rfl, rfl, rfl, rfl⟩ rfl rfl rfl rfl rfl (by kernel_rfl) Try.func6 (by kernel_rfl)
    (of_decide_eq_true (by kernel_rfl)) (by unfold Func.isWrapper; first | (rw [if_pos (by decide +kernel)]; kernel_rfl) | (rw [if_neg (by decide +kernel)]; exact ⟨rfl, rfl⟩))
    (fun os started H enc _ => lifted os started H enc)

/-- ████ THE STATEMENT ████ -/
theorem proved : Rows.FnShortenCollidesExactlySaid :=
  over
#print axioms proved
end Go.Proofs.Qxb6605995a.fnShortenCollidesExactly
