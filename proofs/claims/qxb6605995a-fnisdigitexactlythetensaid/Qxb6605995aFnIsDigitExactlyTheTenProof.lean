/-
  A PROOF OF 'Rows.FnIsDigitExactlyTheTenSaid'. The frame (the row's step and what follows it) is the shell that was given with the seat; the walk and the lemmas ahead of it are typed for this program.
-/
import Derived.Test.Qxb6605995aRows
import Derived.WalkKit
import Derived.ProofKit
import Derived.OpenShut
import Derived.ShutString
namespace Go.Proofs.Qxb6605995a.fnIsDigitExactlyTheTen
open Go.ChangeShapes Go.WideShapes Go.ChangeAt Go.RowKit
open Go.ChangeMaps (open_string shut_string)
set_option linter.unusedVariables false      -- a walk need not use every 'w<i>' (that an integer argument fits its kind)

theorem own : ownKnob Try.prog.godebug = none := by kernel_rfl

/-! ### STEP 1: THE WALK: the Go text returns true. 'Grown w w'': the world has at most new blocks (Derived/RowKit3.lean). Part the cases AHEAD of 'go_enter' where a test parts the walk; take each callee by a contract of your own. -/
/-- Is the byte one of the first k of the ten? -/
def inTen (a : Int) (k : Nat) : Bool := decide (48 ≤ a ∧ a < 48 + (k : Int))
theorem inTen_zero (a : Int) : inTen a 0 = false := by unfold inTen; simp
theorem inTen_succ (a : Int) (k : Nat) : inTen a (k + 1) = (inTen a k || (48 + (k : Int) == a)) := by
  unfold inTen
  rw [Bool.eq_iff_iff]; simp; omega

theorem ten_at (k : Nat) (h : k < 10) : ((({ data := #[48, 49, 50, 51, 52, 53, 54, 55, 56, 57] } : ByteArray)[k]'h).toNat : Int) = 48 + (k : Int) := by
  have hk : k = 0 ∨ k = 1 ∨ k = 2 ∨ k = 3 ∨ k = 4 ∨ k = 5 ∨ k = 6 ∨ k = 7 ∨ k = 8 ∨ k = 9 := by omega
  rcases hk with rfl | rfl | rfl | rfl | rfl | rfl | rfl | rfl | rfl | rfl <;> rfl
set_option maxHeartbeats 1000000 in
theorem walk (a0 : Int) (w0 : (Lit.int .u8 a0).wf = true) (w : World) :
    Calls Try.prog 7 #[.int .u8 a0] w fun e w' => e = .returned (.bool true) ∧ Grown w w' := by
  go_enter Try.func7, Try.ntmps7
  go_wp2
  go_loop [3, 4] (fun f i => ∃ k : Nat, k ≤ 10 ∧ i = .int .i64 k ∧ f = .bool (inTen a0 k)) (fun _ i => 10 - (intOf i).toNat)
  case atStart => exact ⟨0, Nat.zero_le _, rfl, by rw [inTen_zero]⟩
  case round =>
    obtain ⟨k, hk, rfl, rfl⟩ := hrel
    by_cases hlt : k < 10
    · have HS : Hid (inTen a0 (k + 1) = (inTen a0 k || (48 + (k : Int) == a0))) := inTen_succ a0 k
      go_wp2
      · have ha : (48 + (k : Int) == a0) = true := by rw [← ten_at k hlt]; assumption
        go_round
        case rel => exact ⟨k + 1, by omega, by go_num, by rw [HS.out, ha]; simp⟩
        case measure => simp [intOf]; omega
      · have ha : (48 + (k : Int) == a0) = false := by rw [← ten_at k hlt]; assumption
        go_round
        case rel => exact ⟨k + 1, by omega, by go_num, by rw [HS.out, ha]; simp⟩
        case measure => simp [intOf]; omega
    · obtain rfl : k = 10 := by omega
      have hbd := bounds_u8 w0
      by_cases h1 : 48 ≤ a0
      · by_cases h2 : a0 ≤ 57
        · have hin : inTen a0 10 = true := by unfold inTen; simp; omega
          go_wp2
          go_ret
          exact ⟨rfl, by repeat (first | exact Grown.refl _ | apply Grown.drew | apply Grown.alloc)⟩
        · have hin : inTen a0 10 = false := by unfold inTen; simp; omega
          go_wp2
          go_ret
          exact ⟨rfl, by repeat (first | exact Grown.refl _ | apply Grown.drew | apply Grown.alloc)⟩
      · have hin : inTen a0 10 = false := by unfold inTen; simp; omega
        go_wp2
        go_ret
        exact ⟨rfl, by repeat (first | exact Grown.refl _ | apply Grown.drew | apply Grown.alloc)⟩

/-! ### THE ROW's STEP: WRITTEN OUT: LEAVE IT -/
set_option maxRecDepth 100000 in
theorem lifted (os : Os) (started : os.Started) (H : Type) (enc : TypeId × Value → H) :
    ReturnsInHanded {} Try.checked os 7 .any (Rows.fnIsDigitExactlyTheTenSpec.pre6 enc Try.prog Try.f7 Rows.fnIsDigitExactlyTheTenRow.domain false) (Rows.fnIsDigitExactlyTheTenSpec.post enc Try.prog Try.f7 false true false false) := by
  refine returnsInHanded_of_change (C := Try.checked) own started (by kernel_rfl) Try.func7
    (ChangeSpec.witness6 (enc := enc) (C := Try.checked) false ⟨#[], #[.int .u8 0], []⟩ 8 (by kernel_rfl) (by kernel_rfl) (by kernel_rfl) (by kernel_rfl)) ?_
  intro W base args ds gs before hval0 hW hcnd _
  have hval : ∀ (j : Nat) t v, Try.f7.params[j]? = some t → args[j]? = some v → Value.okWide Try.prog W .any base t v := hval0
  have hW' := hW
  obtain ⟨p, q, hA0, hV, rfl, hfz, hnd⟩ := hW
  have hA : DataW.TrodAll enc Try.prog W 0 (fun _ => true) true Try.f7.params.toList args.toList ds p := hA0
  rw [Try.params7] at hA hval
  obtain ⟨v0, vs0, d0, ds0, p0, q0, hargs, rfl, rfl, h0, r0⟩ := trodAll_cons hA
  obtain ⟨rfl, rfl, rfl⟩ := trodAll_nil r0
  obtain rfl : args = #[v0] := by cases args; simp_all
  obtain ⟨rfl, rfl⟩ := trodVars_none hV
  obtain ⟨a0, rfl, rfl, rfl, w0⟩ := open_int Try.underlying5 (hval 0 5 v0 rfl rfl) h0
  clear hA0 hval0
  simp only [List.append_nil] at hW'
  refine (walk a0 w0 W).mono fun e W' ⟨he, hg⟩ => ?_
  subst he
  exact ⟨_, rfl, post_of_same (pa := []) (pv := []) hW' (fun _ _ _ => (trodAll_cons_mk (shut_bool Try.underlying4 _) trodAll_mk0)) (fun sp _ => (trodAll_cons_mk (shut_int Try.underlying5 w0) trodAll_mk0)) (fun _ _ => rfl) rfl
    (hg.frame _) hg.2.1 (ok_one (by kernel_rfl) rfl (okWide_bool_mk Try.underlying4 _))⟩

theorem over : Rows.fnIsDigitExactlyTheTenRow.holds Try.pinned (OpenSpec.ofChange Rows.fnIsDigitExactlyTheTenSpec) :=
  OpenClaim.holds_of_wide 7 Try.f7 rfl rfl rfl rfl rfl rfl rfl ⟨rfl, rfl, rfl, rfl, rfl⟩ rfl rfl rfl rfl rfl (by kernel_rfl) Try.func7 (by kernel_rfl)
    (of_decide_eq_true (by kernel_rfl)) (by unfold Func.isWrapper; first | (rw [if_pos (by decide +kernel)]; kernel_rfl) | (rw [if_neg (by decide +kernel)]; exact ⟨rfl, rfl⟩))
    (fun os started H enc _ => lifted os started H enc)

/-- ████ THE STATEMENT ████ -/
theorem proved : Rows.FnIsDigitExactlyTheTenSaid :=
  over
#print axioms proved
end Go.Proofs.Qxb6605995a.fnIsDigitExactlyTheTen
