import Derived.Test.Qxb6608518aFmtFacts
import Derived.WalkKit
import Derived.WalkSpells
import Derived.WalkLawsBesides
import Derived.Laws.BytesString
namespace Go.Proofs.Qxb6608518aFmt
open Go.RowKit Go.Extern.Stop Go.Stop Go.Extern

set_option maxHeartbeats 400000 in
theorem string_all (F : Interp) (x0 x1 x2 : Int) (w : World) (hF : F.answers w.tape) :
    Calls Tryf.prog 5 #[.agg #[.int .u8 x0, .int .u8 x1, .int .u8 x2]] w fun e w' => e = .returned (.string (FmtStop.textOf (F "fmt.Sprintf" (reading [x0, x1, x2]) 0))) ∧ Below w.heap.size w w' := by
  have hF' := answers_open hF
  have hop : ∀ o : Obj, (FmtStop.operand "fmt.Sprintf" false 88 false (.iface 32 (.slice (some ⟨w.heap.size, 0, none⟩) 3 3))).run Tryf.prog ((w.alloc (.cells #[.int .u8 x0, .int .u8 x1, .int .u8 x2] 23)).alloc o) = .ok (shape32, 1 :: (digits 8 3 ++ FmtText.intValues [x0, x1, x2])) ((w.alloc (.cells #[.int .u8 x0, .int .u8 x1, .int .u8 x2] 23)).alloc o) :=
    fun (o : Obj) => opBytes_88 "fmt.Sprintf" ⟨w.heap.size, 0, none⟩ 3 [x0, x1, x2] ((w.alloc (.cells #[.int .u8 x0, .int .u8 x1, .int .u8 x2] 23)).alloc o) (by
    intro j v hj
    match j, hj with
    | 0, hj => simp at hj; subst hj; simp [Addr.add]
    | 1, hj => simp at hj; subst hj; simp [Addr.add]
    | 2, hj => simp at hj; subst hj; simp [Addr.add])
  go_enter Tryf.func5, Tryf.ntmps5
  go_wp2
  go_ret
  exact ⟨rfl, (((Below.refl _ w).alloc (Nat.le_refl _) _).alloc (by simp) _).drew⟩

/-- One digit. -/
def hexI (d : Int) : Int := if d < 10 then 48 + d else 55 + d
theorem ret_u8 {a b : Int} (h : a = b) : Ending.returned (.int .u8 a) = .returned (.int .u8 b) := by rw [h]
theorem digit_any (d : Int) (w : World) (h0 : 0 ≤ d) (h1 : d < 16) :
    Calls Tryf.prog 10 #[.int .u32 d] w fun e w' => e = .returned (.int .u8 (hexI d)) ∧ w = w' := by
  by_cases h : d < 10
  · have HF : Hid (hexI d = 48 + d) := if_pos h
    go_enter Tryf.func10, Tryf.ntmps10
    go_wp2
    go_ret
    exact ⟨ret_u8 (by rw [HF.out]), rfl⟩
  · have HF : Hid (hexI d = 55 + d) := if_neg h
    go_enter Tryf.func10, Tryf.ntmps10
    go_wp2
    go_ret
    exact ⟨ret_u8 (by rw [HF.out]; omega), rfl⟩

/-- Six bytes as a string. -/
def six (c0 c1 c2 c3 c4 c5 : Int) : ByteArray := ⟨#[UInt8.ofNat c0.toNat, UInt8.ofNat c1.toNat, UInt8.ofNat c2.toNat, UInt8.ofNat c3.toNat, UInt8.ofNat c4.toNat, UInt8.ofNat c5.toNat]⟩
theorem conv_six (w : World) (t : TypeId) (c0 c1 c2 c3 c4 c5 : Int) :
    (convert 32 9 (.slice (some ⟨w.heap.size, 0, none⟩) 6 6)).run Tryf.prog (w.alloc (.cells #[.int .u8 c0, .int .u8 c1, .int .u8 c2, .int .u8 c3, .int .u8 c4, .int .u8 c5] t)) =
      .ok (.string (six c0 c1 c2 c3 c4 c5)) (w.alloc (.cells #[.int .u8 c0, .int .u8 c1, .int .u8 c2, .int .u8 c3, .int .u8 c4, .int .u8 c5] t)) := by
  have hc := run_loadCells_list (P := Tryf.prog) (w := w.alloc (.cells #[.int .u8 c0, .int .u8 c1, .int .u8 c2, .int .u8 c3, .int .u8 c4, .int .u8 c5] t)) ⟨w.heap.size, 0, none⟩ ([c0, c1, c2, c3, c4, c5].map (Value.int .u8)) (by
    intro j v hj
    match j, hj with
    | 0, hj => simp at hj; subst hj; simp [Addr.add]
    | 1, hj => simp at hj; subst hj; simp [Addr.add]
    | 2, hj => simp at hj; subst hj; simp [Addr.add]
    | 3, hj => simp at hj; subst hj; simp [Addr.add]
    | 4, hj => simp at hj; subst hj; simp [Addr.add]
    | 5, hj => simp at hj; subst hj; simp [Addr.add])
  rw [run_convert_bytes_string _ 32 9 5 (some ⟨w.heap.size, 0, none⟩) 6 6 Tryf.underlying32 Tryf.underlying5 Tryf.underlying9, run_bytesToString _ ⟨w.heap.size, 0, none⟩ 6 6 [c0, c1, c2, c3, c4, c5] hc]
  rfl

set_option maxHeartbeats 1000000 in
theorem hex24_any (n : Int) (w : World) (h0 : 0 ≤ n) (h1 : n < 16777216) :
    Calls Tryf.prog 7 #[.int .u32 n] w fun e w' => e = .returned (.string (six (hexI (n / 16 / 16 / 16 / 16 / 16 % 16)) (hexI (n / 16 / 16 / 16 / 16 % 16)) (hexI (n / 16 / 16 / 16 % 16)) (hexI (n / 16 / 16 % 16)) (hexI (n / 16 % 16)) (hexI (n % 16)))) ∧ Below w.heap.size w w' := by
  have hcv := conv_six w 33
  go_enter Tryf.func7, Tryf.ntmps7
  go_wp2
  refine wp_loop_rounds 7 ?_
  rw [rounds_succ]
  go_wp2_with (go_at_call 10; refine (digit_any _ _ (by omega) (by omega)).mono ?_; rintro e w' ⟨rfl, rfl⟩)
  rw [rounds_succ]
  go_wp2_with (go_at_call 10; refine (digit_any _ _ (by omega) (by omega)).mono ?_; rintro e w' ⟨rfl, rfl⟩)
  rw [rounds_succ]
  go_wp2_with (go_at_call 10; refine (digit_any _ _ (by omega) (by omega)).mono ?_; rintro e w' ⟨rfl, rfl⟩)
  rw [rounds_succ]
  go_wp2_with (go_at_call 10; refine (digit_any _ _ (by omega) (by omega)).mono ?_; rintro e w' ⟨rfl, rfl⟩)
  rw [rounds_succ]
  go_wp2_with (go_at_call 10; refine (digit_any _ _ (by omega) (by omega)).mono ?_; rintro e w' ⟨rfl, rfl⟩)
  rw [rounds_succ]
  go_wp2_with (go_at_call 10; refine (digit_any _ _ (by omega) (by omega)).mono ?_; rintro e w' ⟨rfl, rfl⟩)
  rw [rounds_succ]
  go_wp2_with (go_at_call 10; refine (digit_any _ _ (by omega) (by omega)).mono ?_; rintro e w' ⟨rfl, rfl⟩)
  go_ret
  exact ⟨rfl, (Below.refl _ w).alloc (Nat.le_refl _) _⟩
end Go.Proofs.Qxb6608518aFmt
