import Derived.Test.Qxb6605995aRows
import Derived.WalkKit
import Derived.WalkLawsBesides
import Derived.BigQuiet
import Derived.Deep.QuietTactic
namespace Go.Proofs.Qxb6605995a
open Go.RowKit

def dots : ByteArray := ⟨#[46, 46, 46]⟩
/-- What shorten gives. -/
def short (s : ByteArray) : ByteArray := if 16 < s.size then s.extract 0 16 ++ dots else s

set_option maxHeartbeats 400000 in
theorem shorten_long (s : ByteArray) (w : World) (hs : s.size ≤ maxLen) (h : 16 < s.size) :
    Calls Try.prog 15 #[.string s] w fun e w' => e = .returned (.string (short s)) ∧ w = w' := by
  unfold maxLen at hs
  have HS : Hid (short s = s.extract 0 16 ++ dots) := if_pos h
  go_enter Try.func15, Try.ntmps15
  go_wp2
  go_ret
  exact ⟨by rw [HS.out]; rfl, rfl⟩
set_option maxHeartbeats 400000 in
theorem shorten_short (s : ByteArray) (w : World) (hs : s.size ≤ maxLen) (h : ¬ 16 < s.size) :
    Calls Try.prog 15 #[.string s] w fun e w' => e = .returned (.string (short s)) ∧ w = w' := by
  unfold maxLen at hs
  have HS : Hid (short s = s) := if_neg h
  go_enter Try.func15, Try.ntmps15
  go_wp2
  go_ret
  exact ⟨by rw [HS.out]; rfl, rfl⟩
theorem shorten_any (s : ByteArray) (w : World) (hs : s.size ≤ maxLen) (r : ByteArray) (hr : Hid (short s = r)) :
    Calls Try.prog 15 #[.string s] w fun e w' => e = .returned (.string r) ∧ w = w' := by
  rw [← hr.out]
  by_cases h : 16 < s.size
  · exact shorten_long s w hs h
  · exact shorten_short s w hs h

theorem zz14_yes (s : ByteArray) (w : World) (h : s.size ≤ 1048576) :
    Calls Try.prog 14 #[.string s] w fun e w' => e = .returned (.bool true) ∧ w = w' := by
  go_enter Try.func14, Try.ntmps14
  go_wp2
  go_ret
  exact ⟨rfl, rfl⟩
theorem zz14_no (s : ByteArray) (w : World) (h : 1048576 < s.size) :
    Calls Try.prog 14 #[.string s] w fun e w' => e = .returned (.bool false) ∧ w = w' := by
  go_enter Try.func14, Try.ntmps14
  go_wp2
  go_ret
  exact ⟨rfl, rfl⟩
theorem zz16_yes (s t : ByteArray) (w : World) (h : s.size + t.size ≤ 1048576) :
    Calls Try.prog 16 #[.string s, .string t] w fun e w' => e = .returned (.bool true) ∧ w = w' := by
  go_enter Try.func16, Try.ntmps16
  go_wp2
  go_ret
  exact ⟨rfl, rfl⟩
theorem zz16_no (s t : ByteArray) (w : World) (hs : s.size ≤ maxLen) (ht : t.size ≤ maxLen) (h : 1048576 < s.size + t.size) :
    Calls Try.prog 16 #[.string s, .string t] w fun e w' => e = .returned (.bool false) ∧ w = w' := by
  unfold maxLen at hs ht
  by_cases h1 : 1048576 < s.size
  · go_enter Try.func16, Try.ntmps16
    go_wp2
    go_ret
    exact ⟨rfl, rfl⟩
  by_cases h2 : 1048576 < t.size
  · go_enter Try.func16, Try.ntmps16
    go_wp2
    go_ret
    exact ⟨rfl, rfl⟩
  · go_enter Try.func16, Try.ntmps16
    go_wp2
    go_ret
    exact ⟨rfl, rfl⟩

/-! ### The plain facts -/
theorem size_append (a b : ByteArray) : (a ++ b).size = a.size + b.size := ByteArray.size_append
theorem size_short (s : ByteArray) : (short s).size = if 16 < s.size then 19 else s.size := by
  unfold short
  split
  · rw [size_append, ByteArray.size_extract]; show _ + 3 = 19; omega
  · rfl
theorem short_short (s : ByteArray) : short (short s) = short s := by
  have hz := size_short s
  by_cases h : 16 < s.size
  · rw [if_pos h] at hz
    have e : short s = s.extract 0 16 ++ dots := if_pos h
    have h2 : 16 < (short s).size := by omega
    rw [show short (short s) = (short s).extract 0 16 ++ dots from if_pos h2, e]
    rw [ByteArray.extract_append_eq_left (by rw [ByteArray.size_extract]; omega)]
  · have e : short s = s := if_neg h
    rw [e, e]
theorem short_at {s r : ByteArray} (hr : short s = r) (k : Nat) (h : k < r.size) (h' : k < s.size) (hk : k < 16) : r[k] = s[k] := by
  by_cases hl : 16 < s.size
  · have e : short s = s.extract 0 16 ++ dots := if_pos hl
    rw [e] at hr
    subst hr
    rw [ByteArray.getElem_append_left (by rw [ByteArray.size_extract]; omega), ByteArray.getElem_extract]
    simp
  · have e : short s = s := if_neg hl
    rw [e] at hr
    subst hr
    rfl
theorem dots_at (j : Nat) (h : j < dots.size) : dots[j] = 46 := by
  have h3 : j < 3 := h
  have hj : j = 0 ∨ j = 1 ∨ j = 2 := by omega
  rcases hj with rfl | rfl | rfl <;> rfl
theorem short_dot {s r : ByteArray} (hr : short s = r) (k : Nat) (h : k < r.size) (hk : 16 ≤ k) : r[k] = 46 := by
  by_cases hl : 16 < s.size
  · have e : short s = s.extract 0 16 ++ dots := if_pos hl
    rw [e] at hr
    subst hr
    rw [ByteArray.getElem_append_right (by rw [ByteArray.size_extract]; omega)]
    exact dots_at _ _
  · have e : short s = s := if_neg hl
    rw [e] at hr
    subst hr
    omega
/-- Two texts are shown alike just when they are one, or both long and alike in their first sixteen bytes. -/
theorem short_eq_iff (s t : ByteArray) : short s = short t ↔ s = t ∨ (16 < s.size ∧ 16 < t.size ∧ s.extract 0 16 = t.extract 0 16) := by
  have zs := size_short s
  have zt := size_short t
  by_cases hs : 16 < s.size
  · have es : short s = s.extract 0 16 ++ dots := if_pos hs
    by_cases ht : 16 < t.size
    · have et : short t = t.extract 0 16 ++ dots := if_pos ht
      constructor
      · intro h
        refine .inr ⟨hs, ht, ?_⟩
        have h2 := congrArg (fun x => x.extract 0 16) (es.symm.trans (h.trans et))
        simpa only [ByteArray.extract_append_eq_left (show 16 = (s.extract 0 16).size by rw [ByteArray.size_extract]; omega), ByteArray.extract_append_eq_left (show 16 = (t.extract 0 16).size by rw [ByteArray.size_extract]; omega)] using h2
      · rintro (rfl | ⟨_, _, h⟩)
        · rfl
        · rw [es, et, h]
    · rw [if_pos hs] at zs; rw [if_neg ht] at zt
      constructor
      · intro h; rw [h] at zs; omega
      · rintro (rfl | ⟨_, h, _⟩) <;> omega
  · have es : short s = s := if_neg hs
    by_cases ht : 16 < t.size
    · rw [if_neg hs] at zs; rw [if_pos ht] at zt
      constructor
      · intro h; rw [h] at zs; omega
      · rintro (rfl | ⟨h, _, _⟩) <;> omega
    · have et : short t = t := if_neg ht
      rw [es, et]
      constructor
      · exact .inl
      · rintro (h | ⟨h, _, _⟩)
        · exact h
        · omega
end Go.Proofs.Qxb6605995a
