/-
  A PROOF OF 'Rows.FnEncodeBase58RoundTripSaid'. The frame (the row's step and what follows it) is the shell that was given with the seat; the walk and the lemmas ahead of it are typed for this program.
-/
import Derived.Test.Qxb6605995aSrc
import Derived.Test.Qxb6605995aDec
import Derived.WalkKit
import Derived.ProofKit
import Derived.OpenShut
import Derived.ShutString
import Derived.ChangeOld
import Derived.Below
import Derived.BigQuiet
import Derived.Deep.QuietTactic
namespace Go.Proofs.Qxb6605995a.fnEncodeBase58RoundTrip
open Go.ChangeShapes Go.WideShapes Go.ChangeAt Go.RowKit
open Go.ChangeMaps (open_string shut_string)
set_option linter.unusedVariables false

theorem own : ownKnob Try.prog.godebug = none := by kernel_rfl
theorem laidOut : laidOutB Try.prog = true := by kernel_rfl

/-- WHAT THE WALK IS TOLD OF A SLICE OF INTEGERS THAT CAME IN: it is nil; or it leads to a row of 'cap' cells, the numbers 'zs' (the first 'len' are its elements, the rest its spare room), each fitting its kind. -/
def IsRow (k : IntKind) (w : World) (a : Option Addr) (len cap : Nat) (zs : List Int) : Prop :=
  (a = none ∧ len = 0 ∧ cap = 0 ∧ zs = []) ∨
  ∃ x, a = some x ∧ len ≤ cap ∧ cap ≤ maxLen ∧ zs.length = cap ∧ (∀ i, i < zs.length → w.cell? (x.add i) = some (.int k (zs.getD i 0))) ∧ ∀ n ∈ zs, (Lit.int k n).wf = true

/-! ### STEP 1: THE WALK: the Go text returns true, AND WRITES NOTHING THAT WAS THERE: 'Below w.heap.size w w'' (Derived/Below.lean: '.refl', '.alloc', '.drew', '.setCell' at a new block, '.trans'). Open each 'IsRow' by 'rcases' AHEAD of 'go_enter'; part every test ahead of the walk. -/
theorem belowN {B : Nat} {w w' : World} (h : Below B w w') : ∀ n, Below B w (w'.drewN n)
  | 0 => h
  | n + 1 => (belowN h n).drew
/-- Bytes written anew out of their number, the leading noughts ahead, are the bytes. -/
theorem back {A num : List Nat} {z : Nat} (hL : Lead A z) (hA : ∀ d ∈ A, d < 256) (hR : Plain.Rep 256 num 0 (Plain.valBE 256 A)) : List.replicate z 0 ++ num.reverse = A := by
  have h2 := Plain.rep_of_top 256 (A.drop z) (fun d hd => hA d (List.mem_of_mem_drop hd)) (by
    by_cases hz : z < A.length
    · right; rw [getD_drop, Nat.add_zero]; exact hL.2.2 hz
    · left; exact List.drop_eq_nil_of_le (by omega))
  rw [← Plain.valBE_zeros 256 A z hL.2.1] at h2
  have e : num = (A.drop z).reverse := hR.uniq (by omega) h2
  rw [e, List.reverse_reverse]
  have ht : A.take z = List.replicate z 0 := by
    apply List.ext_getElem
    · simp only [List.length_take, List.length_replicate]; exact Nat.min_eq_left hL.1
    · intro j h1 h2
      have hj : j < z := by simpa using h2
      have hjA : j < A.length := Nat.lt_of_lt_of_le hj hL.1
      have := hL.2.1 j hj
      rw [List.getD_eq_getElem?_getD, List.getElem?_eq_getElem hjA] at this
      simpa using this
  rw [← ht, List.take_append_drop]
theorem size_le {A ds : List Nat} {z len : Nat} (hL : Lead A z) (hA : ∀ d ∈ A, d < 256) (hl : A.length = len) (hR : Plain.Rep 58 ds 0 (Plain.valBE 256 A)) : z + ds.length ≤ len * 137 / 100 + 1 := by
  have hz := hL.1
  have hlt := Plain.valBE_lt 256 (by omega) (A.drop z) (fun d hd => hA d (List.mem_of_mem_drop hd))
  rw [← Plain.valBE_zeros 256 A z hL.2.1, List.length_drop] at hlt
  have := hR.len hlt
  omega
set_option maxHeartbeats 1000000 in
theorem walk_far (a : Option Addr) (len cap : Nat) (w : World) (h : 1048576 < len) :
    Calls Try.prog 4 #[.slice a len cap] w fun e w' => e = .returned (.bool true) ∧ Below w.heap.size w w' := by
  go_enter Try.func4, Try.ntmps4
  go_wp2_with (go_at_call 12; refine (zz12_no _ _ _ _ h).mono ?_; rintro e w' ⟨rfl, rfl⟩)
  go_ret
  exact ⟨rfl, Below.refl _ _⟩
set_option maxHeartbeats 1000000 in
theorem walk_far2 (a : Option Addr) (len cap : Nat) (w : World) (h : len ≤ 1048576) (h2 : 4096 < len) :
    Calls Try.prog 4 #[.slice a len cap] w fun e w' => e = .returned (.bool true) ∧ Below w.heap.size w w' := by
  go_enter Try.func4, Try.ntmps4
  go_wp2_with (go_at_call 12; refine (zz12_yes _ _ _ _ h).mono ?_; rintro e w' ⟨rfl, rfl⟩)
  go_ret
  exact ⟨rfl, Below.refl _ _⟩
set_option maxHeartbeats 2000000 in
set_option maxRecDepth 100000 in
theorem walk_near (a : Option Addr) (len cap : Nat) (A : List Nat) (w : World) (hl : len ≤ 4096) (h : Src w a len cap A ∨ (len = 0 ∧ A = [] ∧ ∃ x, a = some x)) :
    Calls Try.prog 4 #[.slice a len cap] w fun e w' => e = .returned (.bool true) ∧ Below w.heap.size w w' := by
  have H : Hid (Src w a len cap A ∨ (len = 0 ∧ A = [] ∧ ∃ x, a = some x)) := h
  clear h
  go_enter Try.func4, Try.ntmps4
  go_wp2_with (first | (go_at_call 12; refine (zz12_yes _ _ _ _ (by omega)).mono ?_; rintro e w' ⟨rfl, rfl⟩) | fail)
  refine (copy_src a len cap A w hl H.out).mono ?_
  rintro e w1 ⟨a1, cap1, rfl, hS1, hb1⟩
  have HS1 : Hid (Src w1 a1 len cap1 A) := hS1
  clear hS1
  go_wp2_with fail
  refine (encode_shim a1 len cap1 A w1 hl HS1.out).mono ?_
  rintro e w2 ⟨z, ds, hL, hR, rfl, hb2⟩
  have HL : Hid (Lead A z) := hL
  have HR : Hid (Plain.Rep 58 ds 0 (Plain.valBE 256 A)) := hR
  have HS2 : Hid (Src w2 a1 len cap1 A) := HS1.out.below hb2
  have hzl : z + ds.length ≤ len * 137 / 100 + 1 := size_le hL HS1.out.lt HS1.out.len hR
  have hsz : (mkS (txt z ds)).size ≤ len * 137 / 100 + 1 := by rw [size_mkS, length_txt]; exact hzl
  clear hL hR
  go_wp2_with fail
  refine (decode_any z _ ds w2 (by omega) HR.out).mono ?_
  rintro e w3 ⟨T, n, cp, num, rfl, hown, hRn, hb3⟩
  rw [back HL.out HS2.out.lt hRn] at hown
  obtain rfl : len = n := by have := own_len hown; rw [HS2.out.len] at this; exact this
  have HS3 : Hid (Src w3 a1 len cap1 A) := HS2.out.below hb3
  have HO : Hid (_) := hown
  have HB : Hid (Below w.heap.size w w3) := (hb1.trans (hb2.mono hb1.size)).trans (hb3.mono (Nat.le_trans hb1.size hb2.size))
  clear hown hRn hzl
  go_wp2
  go_loopw [6] (fun s6 wr => ∃ k : Nat, k ≤ len ∧ s6 = .int .i64 k ∧ Below w3.heap.size w3 wr) (fun s6 _ => len - (intOf s6).toNat)
  case atStart => exact ⟨0, Nat.zero_le _, rfl, Below.refl _ _⟩
  case round =>
    obtain ⟨k, hk, rfl, hbr⟩ := hrel
    by_cases hlt : k < len
    · rcases HS3.out with ⟨_, h0, _, _⟩ | ⟨b, off, rfl, hlc, hA⟩
      · omega
      obtain ⟨d, hd⟩ : ∃ d, A.getD k 0 = d := ⟨_, rfl⟩
      have c1 : wr.cell? ⟨b, off + k, none⟩ = some (.int .u8 (d : Int)) := by
        have h := hA.cell k hlt
        rw [hd] at h
        exact (hbr.cell (p := ⟨b, off + k, none⟩) hA.block).trans h
      have c2 : wr.cell? ⟨T, k, none⟩ = some (.int .u8 (d : Int)) := by
        have h := own_cell HO.out k hlt
        rw [hd] at h
        exact (hbr.cell (p := ⟨T, k, none⟩) (own_lt HO.out)).trans h
      clear hA hd
      go_wp2
      go_quiet (fail)
      go_wp2
      go_roundw
      case rel => exact ⟨k + 1, by omega, by go_num, belowN hbr nq⟩
      case measure => simp [intOf]; omega
    · go_wp2
      go_ret
      exact ⟨rfl, HB.out.trans (hbr.mono HB.out.size)⟩
theorem walk (a0 : Option Addr) (len0 cap0 : Nat) (z0 : List Int) (w : World) (w0 : IsRow .u8 w a0 len0 cap0 z0) :
    Calls Try.prog 4 #[.slice a0 len0 cap0] w fun e w' => e = .returned (.bool true) ∧ Below w.heap.size w w' := by
  by_cases h : 1048576 < len0
  · exact walk_far a0 len0 cap0 w h
  by_cases h2 : 4096 < len0
  · exact walk_far2 a0 len0 cap0 w (by omega) h2
  rcases w0 with ⟨rfl, rfl, rfl, rfl⟩ | ⟨x, rfl, hlc, hm, hz, hc, hw⟩
  · exact walk_near none 0 0 [] w (by omega) (.inl (.inl ⟨rfl, rfl, rfl, rfl⟩))
  · exact walk_near (some x) len0 cap0 _ w (by omega) (src_of_row hlc hz hc hw)

/-! ### THE ROW's STEP: WRITTEN OUT: LEAVE IT -/
set_option maxRecDepth 100000 in
theorem lifted (os : Os) (started : os.Started) (H : Type) (enc : TypeId × Value → H) :
    ReturnsInHanded {} Try.checked os 4 .any (Rows.fnEncodeBase58RoundTripSpec.pre6 enc Try.prog Try.f4 Rows.fnEncodeBase58RoundTripRow.domain false) (Rows.fnEncodeBase58RoundTripSpec.post enc Try.prog Try.f4 false true false false) := by
  refine returnsInHanded_of_change (C := Try.checked) own started (by kernel_rfl) Try.func4
    (ChangeSpec.witness6 (enc := enc) (C := Try.checked) false ⟨#[], #[.slice none 0 0], []⟩ 8 (by kernel_rfl) (by kernel_rfl) (by kernel_rfl) (by kernel_rfl)) ?_
  intro W base args ds gs before hval0 hW hcnd _
  have hval : ∀ (j : Nat) t v, Try.f4.params[j]? = some t → args[j]? = some v → Value.okWide Try.prog W .any base t v := hval0
  have hW' := hW
  obtain ⟨p, q, hA0, hV, rfl, hfz, hnd⟩ := hW
  have hA : DataW.TrodAll enc Try.prog W 0 (fun _ => true) true Try.f4.params.toList args.toList ds p := hA0
  rw [Try.params4] at hA hval
  obtain ⟨v0, vs0, d0, ds0, p0, q0, hargs, rfl, rfl, h0, r0⟩ := trodAll_cons hA
  obtain ⟨rfl, rfl, rfl⟩ := trodAll_nil r0
  obtain rfl : args = #[v0] := by cases args; simp_all
  obtain ⟨rfl, rfl⟩ := trodVars_none hV
  obtain ⟨a0, len0, cap0, rfl⟩ := okWide_slice Try.underlying22 (hval 0 22 v0 rfl rfl)
  have k0 := h0
  have lt0 : ∀ x ∈ p0, x.block < W.heap.size := by obtain ⟨m, hm⟩ := k0; exact DataW.trod_lt m _ _ _ hm
  obtain ⟨z0, w0⟩ : ∃ zs, IsRow .u8 W a0 len0 cap0 zs := by
    obtain ⟨fuel, hf⟩ := h0
    rcases open_ints Try.underlying22 Try.underlying5 (by kernel_rfl) hf with ⟨hcs, _⟩ | ⟨x, l, c, zs, hcs, _, hl, hm, hz, _, hcell, hwz⟩
    · simp [Value.cells] at hcs
      obtain ⟨rfl, rfl, rfl⟩ := hcs
      exact ⟨[], .inl ⟨rfl, rfl, rfl, rfl⟩⟩
    · simp [Value.cells] at hcs
      obtain ⟨rfl, rfl, rfl⟩ := hcs
      exact ⟨zs, .inr ⟨_, rfl, hl, hm, by simpa using hz, hcell, hwz⟩⟩
  clear hA0 hval0
  refine (walk a0 len0 cap0 z0 W w0).mono fun e W' ⟨he, bel⟩ => ?_
  subst he
  exact ⟨_, rfl, _, _, _, [], _, [], hW', trodAll_mk1 (shut_bool Try.underlying4 _), (trodAll_cons_mk (Below.trod laidOut (by kernel_rfl) (of_decide_eq_true (by kernel_rfl)) k0 bel lt0) trodAll_mk0), rfl, bel.frame _, fun h => by cases h⟩

theorem over : Rows.fnEncodeBase58RoundTripRow.holds Try.pinned (OpenSpec.ofChange Rows.fnEncodeBase58RoundTripSpec) :=
  OpenClaim.holds_of_wide 4 Try.f4 rfl rfl rfl rfl rfl rfl rfl ⟨rfl, rfl, rfl, rfl, rfl⟩ rfl rfl rfl rfl rfl (by kernel_rfl) Try.func4 (by kernel_rfl)
    (of_decide_eq_true (by kernel_rfl)) (by unfold Func.isWrapper; first | (rw [if_pos (by decide +kernel)]; kernel_rfl) | (rw [if_neg (by decide +kernel)]; exact ⟨rfl, rfl⟩))
    (fun os started H enc _ => lifted os started H enc)

/-- ████ THE STATEMENT ████ -/
theorem proved : Rows.FnEncodeBase58RoundTripSaid := over
#print axioms proved
end Go.Proofs.Qxb6605995a.fnEncodeBase58RoundTrip
