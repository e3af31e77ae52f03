import Derived.Test.Qxb6605995aModel
import Derived.OpenShut
namespace Go.Proofs.Qxb6605995a
open Go.RowKit
open Plain (val valBE Rep)

/-- What a callee is told of a slice of bytes: nil, or a row that lies somewhere. -/
def Src (w : World) (a : Option Addr) (len cap : Nat) (A : List Nat) : Prop :=
  (a = none ∧ len = 0 ∧ cap = 0 ∧ A = []) ∨ ∃ b off, a = some ⟨b, off, none⟩ ∧ len ≤ cap ∧ Lies w b off len A
theorem Src.lt {w : World} {a : Option Addr} {len cap : Nat} {A : List Nat} (h : Src w a len cap A) : ∀ d ∈ A, d < 256 := by
  rcases h with ⟨_, _, _, rfl⟩ | ⟨b, off, _, _, hl⟩
  · simp
  · exact hl.lt
theorem Src.len {w : World} {a : Option Addr} {len cap : Nat} {A : List Nat} (h : Src w a len cap A) : A.length = len := by
  rcases h with ⟨_, rfl, _, rfl⟩ | ⟨b, off, _, _, hl⟩
  · rfl
  · exact hl.size
/-- Memory that was there is there. -/
theorem Src.below {w w' : World} {a : Option Addr} {len cap : Nat} {A : List Nat} (h : Src w a len cap A) (k : Below w.heap.size w w') : Src w' a len cap A := by
  rcases h with h | ⟨b, off, rfl, hlc, hl⟩
  · exact .inl h
  · exact .inr ⟨b, off, rfl, hlc, hl.below k hl.block⟩

/-! ### copyBytes -/
set_option maxHeartbeats 1000000 in
theorem copy_zero (x : Addr) (cap : Nat) (w : World) :
    Calls Try.prog 9 #[.slice (some x) 0 cap] w fun e w' => e = .returned (.slice (some ⟨w.heap.size, 0, none⟩) 0 0) ∧
      w'.ownsRow w.heap.size 5 1 (.slice (some ⟨w.heap.size, 0, none⟩) 0 0) 0 (B8 []) ∧ Below w.heap.size w w' := by
  obtain ⟨i0, hi, hz0, hz1, hz2⟩ := info_parts Try.info5
  have hnil := fun wx => Lib.run_eql_slice_nil (P := Try.prog) wx 22 5 (some x) 0 cap 0 0 Try.underlying22
  go_enter Try.func9, Try.ntmps9
  go_wp2_with (at_make; refine wpList_make_part _ rfl _ _ 22 rfl w.heap.size 5 i0 (.int .u8 0) Try.underlying22 hi hz0 hz1 rfl _ _ _ _ 0 0 rfl rfl (by omega) (by omega) (Nat.le_refl _) ?b2 ?b3 (Nat.le_refl _) ?_)
  case b2 => rw [hz2]; omega
  case b3 => unfold maxLen; omega
  intro w0 hown0 hgrow0
  go_wp2
  refine wp_loop_rounds 1 ?_
  rw [rounds_succ]
  go_wp2
  go_ret
  exact ⟨rfl, hown0, (Below.refl _ _).grown hgrow0 (Nat.le_refl _) (fun k h => by cases h)⟩
set_option maxHeartbeats 1000000 in
theorem copy_nil (w : World) : Calls Try.prog 9 #[.slice none 0 0] w fun e w' => e = .returned (.slice none 0 0) ∧ w = w' := by
  have hnil := fun wx => Lib.run_eql_slice_nil (P := Try.prog) wx 22 5 none 0 0 0 0 Try.underlying22
  go_enter Try.func9, Try.ntmps9
  go_wp2
  go_ret
  exact ⟨rfl, rfl⟩
theorem src_of_own {w : World} {base g n cap : Nat} {l : List Nat} (h : w.ownsRow base 5 1 (.slice (some ⟨g, 0, none⟩) n cap) n (B8 l)) (hlt : ∀ d ∈ l, d < 256) : Src w (some ⟨g, 0, none⟩) n cap l :=
  .inr ⟨g, 0, rfl, own_cap h, own_len h, hlt, own_lt h, fun t ht => by rw [Nat.zero_add]; exact own_cell h t ht⟩

/-! ### encodeBase58 and modelBase58 at nil -/
set_option maxHeartbeats 2000000 in
set_option maxRecDepth 100000 in
theorem encode_nil (w : World) : Calls Try.prog 18 #[.slice none 0 0] w fun e w' => e = .returned (.string (mkS [])) ∧ Below w.heap.size w w' := by
  obtain ⟨i0, hi, hz0, hz1, hz2⟩ := info_parts Try.info5
  go_enter Try.func18, Try.ntmps18
  go_wp2
  refine wp_loop_rounds 1 ?_
  rw [rounds_succ]
  go_wp2_with (at_make; refine wpList_make_part _ rfl _ _ 22 rfl w.heap.size 5 i0 (.int .u8 0) Try.underlying22 hi hz0 hz1 rfl _ _ _ _ 0 1 rfl rfl (by omega) (by omega) (Nat.zero_le _) ?b2 ?b3 (Nat.le_refl _) ?_)
  case b2 => rw [hz2]; omega
  case b3 => unfold maxLen; omega
  intro w0 hown0 hgrow0
  have hb0 : Below w.heap.size w w0 := (Below.refl _ _).grown hgrow0 (Nat.le_refl _) (fun k h => by cases h)
  go_wp2
  refine wp_loop_rounds 1 ?_
  rw [rounds_succ]
  go_wp2_with (at_make; refine wpList_make_part _ rfl _ _ 22 rfl w.heap.size 5 i0 (.int .u8 0) Try.underlying22 hi hz0 hz1 rfl _ _ _ _ 0 0 rfl rfl (by omega) (by omega) (Nat.zero_le _) ?b2 ?b3 hb0.size ?_)
  case b2 => rw [hz2]; omega
  case b3 => unfold maxLen; omega
  intro w1 hown1 hgrow1
  have hb1 : Below w.heap.size w w1 := hb0.grown hgrow1 hb0.size (fun k h => by cases h)
  have hcv := conv_str (l := []) hown1
  go_wp2
  refine wp_loop_rounds 1 ?_
  rw [rounds_succ]
  go_wp2
  refine wp_loop_rounds 1 ?_
  rw [rounds_succ]
  go_wp2
  go_ret
  exact ⟨rfl, hb1⟩
set_option maxHeartbeats 2000000 in
set_option maxRecDepth 100000 in
theorem model_nil (w : World) : Calls Try.prog 11 #[.slice none 0 0] w fun e w' => e = .returned (.string (mkS [])) ∧ Below w.heap.size w w' := by
  obtain ⟨i0, hi, hz0, hz1, hz2⟩ := info_parts Try.info5
  go_enter Try.func11, Try.ntmps11
  go_wp2
  refine wp_loop_rounds 1 ?_
  rw [rounds_succ]
  go_wp2_with (at_make; refine wpList_make_part _ rfl _ _ 22 rfl w.heap.size 5 i0 (.int .u8 0) Try.underlying22 hi hz0 hz1 rfl _ _ _ _ 0 0 rfl rfl (by omega) (by omega) (Nat.zero_le _) ?b2 ?b3 (Nat.le_refl _) ?_)
  case b2 => rw [hz2]; omega
  case b3 => unfold maxLen; omega
  intro w0 hown0 hgrow0
  have hb0 : Below w.heap.size w w0 := (Below.refl _ _).grown hgrow0 (Nat.le_refl _) (fun k h => by cases h)
  go_wp2
  refine wp_loop_rounds 1 ?_
  rw [rounds_succ]
  go_wp2_with (at_make; refine wpList_make_part _ rfl _ _ 22 rfl w.heap.size 5 i0 (.int .u8 0) Try.underlying22 hi hz0 hz1 rfl _ _ _ _ 0 2 rfl rfl (by omega) (by omega) (Nat.zero_le _) ?b2 ?b3 hb0.size ?_)
  case b2 => rw [hz2]; omega
  case b3 => unfold maxLen; omega
  intro w1 hown1 hgrow1
  have hb1 : Below w.heap.size w w1 := hb0.grown hgrow1 hb0.size (fun k h => by cases h)
  go_wp2
  refine wp_loop_rounds 1 ?_
  rw [rounds_succ]
  go_wp2_with (at_make; refine wpList_make_part _ rfl _ _ 22 rfl w.heap.size 5 i0 (.int .u8 0) Try.underlying22 hi hz0 hz1 rfl _ _ _ _ 0 0 rfl rfl (by omega) (by omega) (Nat.zero_le _) ?b2 ?b3 hb1.size ?_)
  case b2 => rw [hz2]; omega
  case b3 => unfold maxLen; omega
  intro w2 hown2 hgrow2
  have hb2 : Below w.heap.size w w2 := hb1.grown hgrow2 hb1.size (fun k h => by cases h)
  have hcv := conv_str (l := []) hown2
  go_wp2
  refine wp_loop_rounds 1 ?_
  rw [rounds_succ]
  go_wp2
  refine wp_loop_rounds 1 ?_
  rw [rounds_succ]
  go_wp2
  go_ret
  exact ⟨rfl, hb2⟩

/-! ### Both, whatever the slice -/
theorem lead_nil : Lead [] 0 := ⟨Nat.le_refl _, fun j hj => by omega, fun h => by simp at h⟩
theorem encode_src (a : Option Addr) (len cap : Nat) (A : List Nat) (w : World) (hl : len ≤ 4096) (h : Src w a len cap A) :
    Calls Try.prog 18 #[.slice a len cap] w fun e w' => ∃ z ds, Lead A z ∧ Rep 58 ds 0 (valBE 256 A) ∧ e = .returned (.string (mkS (txt z ds))) ∧ Below w.heap.size w w' := by
  rcases h with ⟨rfl, rfl, rfl, rfl⟩ | ⟨b, off, rfl, hlc, hA⟩
  · exact (encode_nil w).mono fun e w' ⟨he, hb⟩ => ⟨0, [], lead_nil, Rep.nil 58 0, he, hb⟩
  · exact encode_any b off len cap A w hl hlc hA
theorem model_src (a : Option Addr) (len cap : Nat) (A : List Nat) (w : World) (hl : len ≤ 4096) (h : Src w a len cap A) :
    Calls Try.prog 11 #[.slice a len cap] w fun e w' => ∃ z ds, Lead A z ∧ Rep 58 ds 0 (valBE 256 A) ∧ e = .returned (.string (mkS (txt z ds))) ∧ Below w.heap.size w w' := by
  rcases h with ⟨rfl, rfl, rfl, rfl⟩ | ⟨b, off, rfl, hlc, hA⟩
  · exact (model_nil w).mono fun e w' ⟨he, hb⟩ => ⟨0, [], lead_nil, Rep.nil 58 0, he, hb⟩
  · exact model_any b off len cap A w hl hA
set_option maxHeartbeats 1000000 in
theorem encode_shim (a : Option Addr) (len cap : Nat) (A : List Nat) (w : World) (hl : len ≤ 4096) (h : Src w a len cap A) :
    Calls Try.prog 10 #[.slice a len cap] w fun e w' => ∃ z ds, Lead A z ∧ Rep 58 ds 0 (valBE 256 A) ∧ e = .returned (.string (mkS (txt z ds))) ∧ Below w.heap.size w w' := by
  go_enter Try.func10, Try.ntmps10
  go_wp2_with fail
  refine (encode_src a len cap A w hl h).mono ?_
  rintro e w' ⟨z, ds, hL, hR, rfl, hb⟩
  have HL : Hid (Lead A z) := hL
  have HR : Hid (Rep 58 ds 0 (valBE 256 A)) := hR
  clear hL hR
  go_wp2
  go_ret
  exact ⟨z, ds, HL.out, HR.out, rfl, hb⟩
/-- The copy: whatever slice comes in, a slice of the same bytes comes back. -/
theorem copy_src (a : Option Addr) (len cap : Nat) (A : List Nat) (w : World) (hl : len ≤ 4096) (h : Src w a len cap A ∨ (len = 0 ∧ A = [] ∧ ∃ x, a = some x)) :
    Calls Try.prog 9 #[.slice a len cap] w fun e w' => ∃ a' cap', e = .returned (.slice a' len cap') ∧ Src w' a' len cap' A ∧ Below w.heap.size w w' := by
  rcases h with (⟨rfl, rfl, rfl, rfl⟩ | ⟨b, off, rfl, hlc, hA⟩) | ⟨rfl, rfl, x, rfl⟩
  · exact (copy_nil w).mono fun e w' ⟨he, hw⟩ => ⟨none, 0, he, .inl ⟨rfl, rfl, rfl, rfl⟩, by rw [← hw]; exact Below.refl _ _⟩
  · exact (copy_any b off len cap A w hl hA).mono fun e w' ⟨he, ho, hb⟩ => ⟨_, len, he, src_of_own ho hA.lt, hb⟩
  · exact (copy_zero x cap w).mono fun e w' ⟨he, ho, hb⟩ => ⟨_, 0, he, src_of_own ho (by simp), hb⟩

/-! ### The bounds laid by program -/
theorem zz8_yes (a : Option Addr) (len cap : Nat) (w : World) (h : len ≤ 1048576) :
    Calls Try.prog 8 #[.slice a len cap] w fun e w' => e = .returned (.bool true) ∧ w = w' := by
  go_enter Try.func8, Try.ntmps8
  go_wp2
  go_ret
  exact ⟨rfl, rfl⟩
theorem zz8_no (a : Option Addr) (len cap : Nat) (w : World) (h : 1048576 < len) :
    Calls Try.prog 8 #[.slice a len cap] w fun e w' => e = .returned (.bool false) ∧ w = w' := by
  go_enter Try.func8, Try.ntmps8
  go_wp2
  go_ret
  exact ⟨rfl, rfl⟩
theorem zz12_yes (a : Option Addr) (len cap : Nat) (w : World) (h : len ≤ 1048576) :
    Calls Try.prog 12 #[.slice a len cap] w fun e w' => e = .returned (.bool true) ∧ w = w' := by
  go_enter Try.func12, Try.ntmps12
  go_wp2
  go_ret
  exact ⟨rfl, rfl⟩
theorem zz12_no (a : Option Addr) (len cap : Nat) (w : World) (h : 1048576 < len) :
    Calls Try.prog 12 #[.slice a len cap] w fun e w' => e = .returned (.bool false) ∧ w = w' := by
  go_enter Try.func12, Try.ntmps12
  go_wp2
  go_ret
  exact ⟨rfl, rfl⟩

/-! ### From what came in -/
/-- The elements' numbers. -/
def natsOf (zs : List Int) (len : Nat) : List Nat := (zs.take len).map Int.toNat
theorem src_of_row {w : World} {x : Addr} {len cap : Nat} {zs : List Int} (hl : len ≤ cap) (hz : zs.length = cap) (hc : ∀ i, i < zs.length → w.cell? (x.add i) = some (.int .u8 (zs.getD i 0))) (hw : ∀ n ∈ zs, (Lit.int .u8 n).wf = true) :
    Src w (some x) len cap (natsOf zs len) ∨ (len = 0 ∧ natsOf zs len = [] ∧ ∃ y, some x = some y) := by
  by_cases h0 : len = 0
  · subst h0; exact .inr ⟨rfl, by simp [natsOf], x, rfl⟩
  left
  right
  obtain ⟨b, off, spot⟩ := x
  have hspot : spot = none := by simpa [Addr.add] using World.cell?_spot (hc 0 (by omega))
  subst hspot
  have bd : ∀ n ∈ zs, 0 ≤ n ∧ n < 256 := fun n hn => by have := bounds_u8 (hw n hn); omega
  refine ⟨b, off, rfl, hl, ?_, ?_, ?_, ?_⟩
  · simp [natsOf]; omega
  · intro d hd
    simp only [natsOf, List.mem_map] at hd
    obtain ⟨n, hn, rfl⟩ := hd
    have := bd n (List.mem_of_mem_take hn); omega
  · have := block_lt_of_cell (hc 0 (by omega)); rwa [Addr.add_lit] at this
  · intro t ht
    have h := hc t (by omega)
    rw [Addr.add_lit] at h
    rw [h]
    have hm : zs.getD t 0 ∈ zs := by
      rw [List.getD_eq_getElem?_getD, List.getElem?_eq_getElem (by omega)]; simp
    have hb := bd _ hm
    have e : (natsOf zs len).getD t 0 = (zs.getD t 0).toNat := by
      simp [natsOf, List.getD_eq_getElem?_getD, ht, List.getElem?_eq_getElem (show t < zs.length by omega)]
    rw [e, Int.toNat_of_nonneg hb.1]
end Go.Proofs.Qxb6605995a
