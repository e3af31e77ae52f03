import Derived.Test.Qxb6608518aFmtRows
import Derived.WalkKit
import Derived.WalkLawsBesides
namespace Go.Proofs.Qxb6608518aFmt
open Go.RowKit

/-- Does the text begin by 0x or 0X? -/
def pre (s : ByteArray) : Bool := decide (2 ≤ s.size) && s.data.toList.getD 0 0 == 48 && (s.data.toList.getD 1 0 == 120 || s.data.toList.getD 1 0 == 88)
/-- What trimHexPrefix gives. -/
def trim (s : ByteArray) : ByteArray := if pre s then s.extract 2 s.size else s

theorem at_data (s : ByteArray) (k : Nat) (h : k < s.size) : s.data.toList.getD k 0 = s[k] := by
  rw [List.getD_eq_getElem?_getD, List.getElem?_eq_getElem (by simpa using h)]; rfl
theorem beq_u8 (x : UInt8) (n : Nat) (hn : n < 256) : ((x.toNat : Int) == (n : Int)) = (x == UInt8.ofNat n) := by
  rw [Bool.eq_iff_iff, beq_iff_eq, beq_iff_eq]
  constructor
  · intro h
    have h2 : x.toNat = n := by omega
    rw [← h2]; simp
  · rintro rfl
    rw [UInt8.toNat_ofNat', Nat.mod_eq_of_lt hn]

theorem pre_eq (s : ByteArray) (h : 2 ≤ s.size) : pre s = (((s[0]'(by omega)).toNat : Int) == 48 && (((s[1]'(by omega)).toNat : Int) == 120 || ((s[1]'(by omega)).toNat : Int) == 88)) := by
  unfold pre
  rw [at_data s 0 (by omega), at_data s 1 (by omega)]
  have e0 := beq_u8 (s[0]'(by omega)) 48 (by omega)
  have e1 := beq_u8 (s[1]'(by omega)) 120 (by omega)
  have e2 := beq_u8 (s[1]'(by omega)) 88 (by omega)
  have hd : decide (2 ≤ s.size) = true := by simpa using h
  rw [hd, Bool.true_and]
  show _ = (_ == ((48 : Nat) : Int) && (_ == ((120 : Nat) : Int) || _ == ((88 : Nat) : Int)))
  rw [e0, e1, e2]; rfl

set_option maxHeartbeats 1000000 in
theorem trim_any (s : ByteArray) (w : World) (hs : s.size ≤ maxLen) (r : ByteArray) (hr : Hid (trim s = r)) :
    Calls Tryf.prog 6 #[.string s] w fun e w' => e = .returned (.string r) ∧ w = w' := by
  unfold maxLen at hs
  by_cases h2 : 2 ≤ s.size
  · have hp := pre_eq s h2
    have h0 : 0 < s.size := by omega
    have h1 : 1 < s.size := by omega
    obtain ⟨x, hx⟩ : ∃ x : UInt8, s[0] = x := ⟨_, rfl⟩
    obtain ⟨y, hy⟩ : ∃ y : UInt8, s[1] = y := ⟨_, rfl⟩
    rw [hx, hy] at hp
    by_cases c0 : ((x.toNat : Int) == 48) = true
    · by_cases c1 : ((y.toNat : Int) == 120) = true
      · have HR : Hid (s.extract 2 s.size = r) := by
          have hpp : pre s = true := by rw [hp, c0, c1]; rfl
          rw [← hr.out, trim, if_pos hpp]; rfl
        clear hp hr
        go_enter Tryf.func6, Tryf.ntmps6
        go_wp2
        go_ret
        exact ⟨by rw [← HR.out]; rfl, rfl⟩
      · have c1' : ((y.toNat : Int) == 120) = false := by simpa using c1
        clear c1
        by_cases c2 : ((y.toNat : Int) == 88) = true
        · have HR : Hid (s.extract 2 s.size = r) := by
            have hpp : pre s = true := by rw [hp, c0, c2, c1']; rfl
            rw [← hr.out, trim, if_pos hpp]; rfl
          clear hp hr
          go_enter Tryf.func6, Tryf.ntmps6
          go_wp2
          go_ret
          exact ⟨by rw [← HR.out]; rfl, rfl⟩
        · have c2' : ((y.toNat : Int) == 88) = false := by simpa using c2
          have HR : Hid (s = r) := by
            have hpp : ¬ pre s = true := by rw [hp, c0, c2', c1']; simp
            rw [← hr.out, trim, if_neg hpp]; rfl
          clear hp hr c2
          go_enter Tryf.func6, Tryf.ntmps6
          go_wp2
          go_ret
          exact ⟨by rw [← HR.out]; rfl, rfl⟩
    · have c0' : ((x.toNat : Int) == 48) = false := by simpa using c0
      have HR : Hid (s = r) := by
        have hpp : ¬ pre s = true := by rw [hp, c0']; simp
        rw [← hr.out, trim, if_neg hpp]; rfl
      clear hp hr c0
      go_enter Tryf.func6, Tryf.ntmps6
      go_wp2
      go_ret
      exact ⟨by rw [← HR.out]; rfl, rfl⟩
  · have HR : Hid (s = r) := by
      have hpp : ¬ pre s = true := by simp [pre, h2]
      rw [← hr.out, trim, if_neg hpp]; rfl
    clear hr
    go_enter Tryf.func6, Tryf.ntmps6
    go_wp2
    go_ret
    exact ⟨by rw [← HR.out]; rfl, rfl⟩

/-! ### The plain facts -/
theorem data_inj {a b : ByteArray} (h : a.data.toList = b.data.toList) : a = b := by
  cases a; cases b; simp only [Array.toList_inj] at h; rw [h]
theorem data_cut (s : ByteArray) (i j : Nat) : (s.extract i j).data.toList = (s.data.toList.take j).drop i := by
  rw [ByteArray.data_extract, Array.toList_extract, List.extract_eq_take_drop, List.drop_take]
theorem data_glue (a b : ByteArray) : (a ++ b).data.toList = a.data.toList ++ b.data.toList := by
  rw [ByteArray.data_append, Array.toList_append]
theorem size_data (s : ByteArray) : s.data.toList.length = s.size := by simp
theorem trim_yes (s t : ByteArray) (x : UInt8) (h : s.data.toList = 48 :: x :: t.data.toList) (hx : x = 120 ∨ x = 88) : trim s = t := by
  have hz : 2 ≤ s.size := by rw [← size_data, h]; simp
  have hp : pre s = true := by
    unfold pre; rw [h]
    rcases hx with rfl | rfl <;> simp [hz]
  rw [trim, if_pos hp]
  apply data_inj
  rw [data_cut, h, ← size_data, h, List.take_of_length_le (Nat.le_refl _)]
  rfl
theorem ret_bool {a b : Bool} (h : a = b) : Ending.returned (.bool a) = .returned (.bool b) := by rw [h]
theorem beqL (a b : ByteArray) (h : a = b) : (a.toList == b.toList) = true := by rw [h]; simp
end Go.Proofs.Qxb6608518aFmt
