import Derived.Test.Qxb6608518aFmtSteps
import Derived.Test.Qxb6608518aFmtTrim
import Derived.OpenShut
namespace Go.Proofs.Qxb6608518aFmt
open Go.RowKit Go.Extern.Stop Go.Stop Go.Extern Go.Kit

/-- The number. -/
def num3 (x0 x1 x2 : Int) : Int := x0 * 65536 + x1 * 256 + x2
/-- Its text. -/
def text24 (n : Int) : ByteArray := six (hexI (n / 16 / 16 / 16 / 16 / 16 % 16)) (hexI (n / 16 / 16 / 16 / 16 % 16)) (hexI (n / 16 / 16 / 16 % 16)) (hexI (n / 16 / 16 % 16)) (hexI (n / 16 % 16)) (hexI (n % 16))

theorem digit_eq (d : Int) (h0 : 0 ≤ d) : FmtText.digit true d.toNat = UInt8.ofNat (hexI d).toNat := by
  unfold FmtText.digit hexI
  by_cases h : d < 10
  · rw [if_pos (by omega), if_pos h]; congr 1; omega
  · rw [if_neg (by omega), if_neg h]; simp only [if_true]; congr 1; omega
theorem byte_eq (x : Int) (h0 : 0 ≤ x) (h1 : x ≤ 255) : (UInt8.ofNat (x % 18446744073709551616).toNat).toNat = x.toNat := by
  rw [UInt8.toNat_ofNat', Int.emod_eq_of_lt h0 (by omega)]
  exact Nat.mod_eq_of_lt (by omega)
theorem hex_eq (x0 x1 x2 : Int) (a0 : 0 ≤ x0 ∧ x0 ≤ 255) (a1 : 0 ≤ x1 ∧ x1 ≤ 255) (a2 : 0 ≤ x2 ∧ x2 ≤ 255) :
    FmtText.hexOf true (FmtText.bytesOf [x0, x1, x2]) = (text24 (num3 x0 x1 x2)).data.toList := by
  have key : ∀ (x : Int) (d : Nat) (e : Int), d = e.toNat → 0 ≤ e → FmtText.digit true d = UInt8.ofNat (hexI e).toNat := fun x d e h h0 => by rw [h]; exact digit_eq e h0
  simp only [FmtText.bytesOf, List.map_cons, List.map_nil, FmtText.hexOf, byte_eq x0 a0.1 a0.2, byte_eq x1 a1.1 a1.2, byte_eq x2 a2.1 a2.2, text24, six]
  have e5 : num3 x0 x1 x2 / 16 / 16 / 16 / 16 / 16 % 16 = x0 / 16 := by unfold num3; omega
  have e4 : num3 x0 x1 x2 / 16 / 16 / 16 / 16 % 16 = x0 % 16 := by unfold num3; omega
  have e3 : num3 x0 x1 x2 / 16 / 16 / 16 % 16 = x1 / 16 := by unfold num3; omega
  have e2 : num3 x0 x1 x2 / 16 / 16 % 16 = x1 % 16 := by unfold num3; omega
  have e1 : num3 x0 x1 x2 / 16 % 16 = x2 / 16 := by unfold num3; omega
  have e0 : num3 x0 x1 x2 % 16 = x2 % 16 := by unfold num3; omega
  rw [e5, e4, e3, e2, e1, e0]
  rw [key x0 (x0.toNat / 16) (x0 / 16) (by omega) (by omega), key x0 (x0.toNat % 16) (x0 % 16) (by omega) (by omega), key x1 (x1.toNat / 16) (x1 / 16) (by omega) (by omega), key x1 (x1.toNat % 16) (x1 % 16) (by omega) (by omega), key x2 (x2.toNat / 16) (x2 / 16) (by omega) (by omega), key x2 (x2.toNat % 16) (x2 % 16) (by omega) (by omega)]

theorem told_six (F : Interp) (x0 x1 x2 : Int) (w0 : (Lit.int .u8 x0).wf = true) (w1 : (Lit.int .u8 x1).wf = true) (w2 : (Lit.int .u8 x2).wf = true) :
    FmtStop.textOf (F.told "fmt.Sprintf" (reading [x0, x1, x2]) 0) = text24 (num3 x0 x1 x2) := by
  have b0 := bounds_u8 w0
  have b1 := bounds_u8 w1
  have b2 := bounds_u8 w2
  apply data_inj
  rw [textOf_list, told_string F (t_text [x0, x1, x2] (by simp [w0, w1, w2]) (by simp)) (by simp [FmtText.hexOf_length, FmtText.bytesOf_length]), hex_eq x0 x1 x2 (by omega) (by omega) (by omega)]

theorem wraps_u32 (n : Int) (h0 : 0 ≤ n) (h1 : n < 2 ^ 32) : IntKind.u32.wrap n = n := by rw [IntKind.wrap_u32']; omega
theorem or_num (x0 x1 x2 : Int) (a0 : 0 ≤ x0 ∧ x0 ≤ 255) (a1 : 0 ≤ x1 ∧ x1 ≤ 255) (a2 : 0 ≤ x2 ∧ x2 ≤ 255) :
    bits .or .u32 (bits .or .u32 (x0 * 65536) (x1 * 256)) x2 = num3 x0 x1 x2 := by
  rw [bits_join .u32 32 (by decide) wraps_u32 16 (x0 * 65536) (x1 * 256) (by omega) (by omega) (by omega) (by omega) (by omega) (by omega),
    bits_join .u32 32 (by decide) wraps_u32 8 (x0 * 65536 + x1 * 256) x2 (by omega) (by omega) (by omega) (by omega) (by omega) (by omega)]
  rfl

set_option maxHeartbeats 1000000 in
theorem law_walk (F : Interp) (x0 x1 x2 : Int) (v0 : (Lit.int .u8 x0).wf = true) (v1 : (Lit.int .u8 x1).wf = true) (v2 : (Lit.int .u8 x2).wf = true) (w : World) (hF : F.told.answers w.tape) :
    Calls Tryf.prog 3 #[.agg #[.int .u8 x0, .int .u8 x1, .int .u8 x2]] w fun e w' => e = .returned (.bool true) ∧ Below w.heap.size w w' := by
  have b0 := bounds_u8 v0
  have b1 := bounds_u8 v1
  have b2 := bounds_u8 v2
  obtain ⟨S, hS⟩ : ∃ S, text24 (num3 x0 x1 x2) = S := ⟨_, rfl⟩
  have hz : S.size ≤ 6 := by rw [← hS]; exact Nat.le_refl 6
  have HS : Hid (text24 (num3 x0 x1 x2) = S) := hS
  have HT : Hid (FmtStop.textOf (F.told "fmt.Sprintf" (reading [x0, x1, x2]) 0) = S) := by rw [← hS]; exact told_six F x0 x1 x2 v0 v1 v2
  have HF : Hid (F.told.answers w.tape) := hF
  clear hS hF v0 v1 v2
  go_enter Tryf.func3, Tryf.ntmps3
  go_wp2_with fail
  refine (string_all F.told x0 x1 x2 (w.alloc (.cells #[.int .u8 x0, .int .u8 x1, .int .u8 x2] 22)) HF.out).mono ?_
  rintro e w1 ⟨rfl, hb⟩
  rw [HT.out]
  have c0 : w1.cell? ⟨w.heap.size, 0, none⟩ = some (.int .u8 x0) := (hb.cell (p := ⟨w.heap.size, 0, none⟩) (by simp)).trans (by simp)
  have c1 : w1.cell? ⟨w.heap.size, 1, none⟩ = some (.int .u8 x1) := (hb.cell (p := ⟨w.heap.size, 1, none⟩) (by simp)).trans (by simp)
  have c2 : w1.cell? ⟨w.heap.size, 2, none⟩ = some (.int .u8 x2) := (hb.cell (p := ⟨w.heap.size, 2, none⟩) (by simp)).trans (by simp)
  have hor := or_num x0 x1 x2 (by omega) (by omega) (by omega)
  have hn0 : 0 ≤ num3 x0 x1 x2 := by unfold num3; omega
  have hn1 : num3 x0 x1 x2 < 16777216 := by unfold num3; omega
  have H1 : Hid (trim ({ data := #[48, 120] } ++ S) = S) := trim_yes _ S 120 (by rw [data_glue]; rfl) (.inl rfl)
  go_wp2_with fail
  refine (trim_any _ w1 (by rw [ByteArray.size_append]; unfold maxLen; show 2 + _ ≤ _; omega) S H1).mono ?_
  rintro e w2 ⟨rfl, rfl⟩
  go_wp2_with fail
  refine (hex24_any (num3 x0 x1 x2) w1 hn0 hn1).mono ?_
  rintro e w3 ⟨rfl, hb3⟩
  rw [show six (hexI (num3 x0 x1 x2 / 16 / 16 / 16 / 16 / 16 % 16)) (hexI (num3 x0 x1 x2 / 16 / 16 / 16 / 16 % 16)) (hexI (num3 x0 x1 x2 / 16 / 16 / 16 % 16)) (hexI (num3 x0 x1 x2 / 16 / 16 % 16)) (hexI (num3 x0 x1 x2 / 16 % 16)) (hexI (num3 x0 x1 x2 % 16)) = S from HS.out]
  go_wp2
  go_ret
  refine ⟨ret_bool (by simp), ?_⟩
  have hb0 : Below w.heap.size w w1 := ((Below.refl _ w).alloc (Nat.le_refl _) _).trans (hb.mono (by simp))
  exact hb0.trans (hb3.mono hb0.size)
end Go.Proofs.Qxb6608518aFmt
