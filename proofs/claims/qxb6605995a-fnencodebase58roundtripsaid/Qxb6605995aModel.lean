import Derived.Test.Qxb6605995aEnc
namespace Go.Proofs.Qxb6605995a
open Go.RowKit
open Plain (val valBE Rep Div)

/-! ### One digit's letter -/
theorem al_form_all : ∀ v : Fin 58, al v.val = if v.val < 9 then 49 + v.val else if v.val < 17 then 56 + v.val else if v.val < 22 then 57 + v.val else if v.val < 33 then 58 + v.val else if v.val < 44 then 64 + v.val else 65 + v.val := by decide
theorem ret_u8 {a b : Int} (h : a = b) : Ending.returned (.int .u8 a) = .returned (.int .u8 b) := by rw [h]
set_option maxHeartbeats 1000000 in
theorem char_any (v : Nat) (w : World) (h : v < 58) :
    Calls Try.prog 19 #[.int .i64 (v : Int)] w fun e w' => e = .returned (.int .u8 ((al v : Nat) : Int)) ∧ w = w' := by
  have HF : Hid (al v = if v < 9 then 49 + v else if v < 17 then 56 + v else if v < 22 then 57 + v else if v < 33 then 58 + v else if v < 44 then 64 + v else 65 + v) := al_form_all ⟨v, h⟩
  have cases6 : v < 9 ∨ (9 ≤ v ∧ v < 17) ∨ (17 ≤ v ∧ v < 22) ∨ (22 ≤ v ∧ v < 33) ∨ (33 ≤ v ∧ v < 44) ∨ 44 ≤ v := by omega
  rcases cases6 with h1 | ⟨h1, h2⟩ | ⟨h1, h2⟩ | ⟨h1, h2⟩ | ⟨h1, h2⟩ | h1
  · go_enter Try.func19, Try.ntmps19
    go_wp2
    go_ret
    refine ⟨ret_u8 ?_, rfl⟩
    have hf := HF.out; rw [hf, if_pos (by omega)]; omega
  · go_enter Try.func19, Try.ntmps19
    go_wp2
    go_ret
    refine ⟨ret_u8 ?_, rfl⟩
    have hf := HF.out; rw [hf, if_neg (by omega), if_pos (by omega)]; omega
  · go_enter Try.func19, Try.ntmps19
    go_wp2
    go_ret
    refine ⟨ret_u8 ?_, rfl⟩
    have hf := HF.out; rw [hf, if_neg (by omega), if_neg (by omega), if_pos (by omega)]; omega
  · go_enter Try.func19, Try.ntmps19
    go_wp2
    go_ret
    refine ⟨ret_u8 ?_, rfl⟩
    have hf := HF.out; rw [hf, if_neg (by omega), if_neg (by omega), if_neg (by omega), if_pos (by omega)]; omega
  · go_enter Try.func19, Try.ntmps19
    go_wp2
    go_ret
    refine ⟨ret_u8 ?_, rfl⟩
    have hf := HF.out; rw [hf, if_neg (by omega), if_neg (by omega), if_neg (by omega), if_neg (by omega), if_pos (by omega)]; omega
  · go_enter Try.func19, Try.ntmps19
    go_wp2
    go_ret
    refine ⟨ret_u8 ?_, rfl⟩
    have hf := HF.out; rw [hf, if_neg (by omega), if_neg (by omega), if_neg (by omega), if_neg (by omega), if_neg (by omega)]; omega

theorem getD_drop (A : List Nat) (z k : Nat) : (A.drop z).getD k 0 = A.getD (z + k) 0 := by simp [List.getD_eq_getElem?_getD]
theorem valBE_all_zero {ns : List Nat} {s : Nat} (h : ∀ j, j < s → ns.getD j 0 = 0) (hs : ns.length ≤ s) : valBE 256 ns = 0 := by
  rw [Plain.valBE_zeros 256 ns s h, List.drop_eq_nil_of_le hs]; rfl
theorem map_getD (ds : List Nat) (t : Nat) (h : t < ds.length) : (ds.map al).getD t 0 = al (ds.getD t 0) := by
  simp [List.getD_eq_getElem?_getD, List.getElem?_eq_getElem h]

theorem set_zeros {cur : List Nat} {st i v : Nat} (h : ∀ j, j < st → cur.getD j 0 = 0) (hi : st ≤ i) : ∀ j, j < st → (cur.set i v).getD j 0 = 0 := by
  intro j hj
  have := h j hj
  rw [List.getD_eq_getElem?_getD, List.getElem?_set_ne (by omega), ← List.getD_eq_getElem?_getD]
  exact this
set_option maxHeartbeats 4000000 in
set_option maxRecDepth 100000 in
theorem model_any (b off len cap : Nat) (A : List Nat) (w : World) (hl : len ≤ 4096) (hA : Lies w b off len A) :
    Calls Try.prog 11 #[.slice (some ⟨b, off, none⟩) len cap] w fun e w' => ∃ z ds, Lead A z ∧ Rep 58 ds 0 (valBE 256 A) ∧ e = .returned (.string (mkS (txt z ds))) ∧ Below w.heap.size w w' := by
  obtain ⟨i0, hi, hz0, hz1, hz2⟩ := info_parts Try.info5
  go_enter Try.func11, Try.ntmps11
  go_upto_block 0 with fail
  go_cut [3] from 15 to 27 (fun s3 wx => w = wx ∧ ∃ z : Nat, s3 = .int .i64 z ∧ Lead A z)
  case first =>
    go_wp2_with fail
    go_loopg [3] len (fun g s3 wx => w = wx ∧ ∃ z : Nat, z ≤ len ∧ g = len - z ∧ s3 = .int .i64 z ∧ Hid (∀ j, j < z → A.getD j 0 = 0))
    case atStart => exact ⟨rfl, 0, Nat.zero_le _, rfl, rfl, fun j hj => by omega⟩
    case round =>
      obtain ⟨rfl, z, hz, rfl, rfl, HZ⟩ := hrel
      by_cases hlt : z < len
      · obtain ⟨d, hd⟩ : ∃ d, A.getD z 0 = d := ⟨_, rfl⟩
        have hc := hA.cell z hlt
        rw [hd] at hc
        have HD : Hid (A.getD z 0 = d) := hd
        clear hd
        by_cases h0 : d = 0
        · subst h0
          go_wp2
          go_roundg (len - (z + 1))
          case measure => omega
          case rel => exact ⟨rfl, z + 1, by omega, rfl, by go_num, lead_more HZ.out HD.out⟩
        · have h0' : 0 < d := by omega
          go_wp2
          go_meet
          exact ⟨rfl, z, rfl, by rw [hA.size]; exact hz, HZ.out, fun _ => by rw [HD.out]; omega⟩
      · go_wp2
        go_meet
        exact ⟨rfl, z, rfl, by rw [hA.size]; exact hz, HZ.out, fun h => by rw [hA.size] at h; omega⟩
  case rest =>
    obtain ⟨rfl, z, rfl, hL⟩ := hcut
    have hz : z ≤ len := by have := hL.1; rwa [hA.size] at this
    have HL : Hid (Lead A z) := hL
    clear hL
    obtain ⟨L, hLz⟩ : ∃ L, L + z = len := ⟨len - z, by omega⟩
    have hAd : (A.drop z).length = L := by rw [List.length_drop, hA.size]; omega
    go_wp2_with (at_make; refine wpList_make_part _ rfl _ _ 22 rfl w.heap.size 5 i0 (.int .u8 0) Try.underlying22 hi hz0 hz1 rfl _ _ _ _ L L rfl rfl (by omega) (by omega) (Nat.le_refl _) ?b2 ?b3 (Nat.le_refl _) ?_)
    case b2 => rw [hz2]; omega
    case b3 => unfold maxLen; omega
    intro w0 hown0 hgrow0
    rw [show (Value.int .u8 0) = .int .u8 ((0 : Nat) : Int) from rfl, B8_replicate] at hown0
    have hnx0 : Below w.heap.size w w0 := (Below.refl _ _).grown hgrow0 (Nat.le_refl _) (fun k h => by cases h)
    clear hgrow0
    go_upto_block 2 with fail
    go_cut [] from 34 to 48 (fun wx => wx.ownsRow w.heap.size 5 1 (.slice (some ⟨w.heap.size, 0, none⟩) L L) L (B8 (A.drop z)) ∧ Below w.heap.size w wx)
    case first =>
      go_wp2_with fail
      go_loopg [5] L (fun g s5 wx => ∃ (k : Nat) (C : List Nat), k ≤ L ∧ g = L - k ∧ s5 = .int .i64 ((z : Int) + (k : Int)) ∧ wx.ownsRow w.heap.size 5 1 (.slice (some ⟨w.heap.size, 0, none⟩) L L) L (B8 C) ∧ Hid (C.take k = (A.drop z).take k) ∧ Below w.heap.size w wx)
      case atStart => exact ⟨0, _, Nat.zero_le _, rfl, by go_num, hown0, rfl, hnx0⟩
      case round =>
        obtain ⟨k, C, hk, rfl, rfl, hown, HC, hnx⟩ := hrel
        clear hown0 hnx0
        have hlC := own_len hown
        by_cases hlt : k < L
        · obtain ⟨d, hd⟩ : ∃ d, (A.drop z).getD k 0 = d := ⟨_, rfl⟩
          have hc := hA.cell (z + k) (by omega)
          rw [← getD_drop, hd] at hc
          have hcr : wr.cell? ⟨b, off + (z + k), none⟩ = some (.int .u8 (d : Int)) := (hnx.cell (p := ⟨b, off + (z + k), none⟩) hA.block).trans hc
          have hd256 : d < 256 := by rw [← hd, getD_drop]; exact getD_lt hA.lt _ (by rw [hA.size]; omega)
          have HD : Hid ((A.drop z).getD k 0 = d) := hd
          obtain ⟨x, hco⟩ : ∃ x : Nat, wr.cell? ⟨w.heap.size, k, none⟩ = some (.int .u8 (x : Int)) := ⟨_, own_cell hown k hlt⟩
          have hfz := hown.frozenAt k
          have HO : Hid (_ ∧ _) := own_store hown k d (V := (d : Int)) rfl
          clear hd hc
          go_wp2
          go_roundg (L - (k + 1))
          case measure => omega
          case rel => exact ⟨k + 1, C.set k d, by omega, rfl, by go_num, HO.out.1, copy_step HC.out (by omega) (by omega) HD.out, hnx.grown HO.out.2 hnx.size (fun j hj => by cases hj; exact Nat.le_refl _)⟩
        · go_wp2
          go_meet
          obtain rfl : k = L := by omega
          have h := HC.out
          rw [List.take_of_length_le (by omega), List.take_of_length_le (by omega)] at h
          subst h
          exact ⟨hown, hnx⟩
    case rest =>
      obtain ⟨hown, hnx⟩ := hcut
      clear hown0 hnx0
      go_wp2_with (at_make; refine wpList_make_part _ rfl _ _ 22 rfl w.heap.size 5 i0 (.int .u8 0) Try.underlying22 hi hz0 hz1 rfl _ _ _ _ 0 (2 * L + 2) rfl rfl (by omega) (by omega) (Nat.zero_le _) ?b2 ?b3 hnx.size ?_)
      case b2 => rw [hz2]; omega
      case b3 => unfold maxLen; omega
      intro w1 hownR hgrow1
      have hg0 : w.heap.size < wc.heap.size := own_lt hown
      have hownN := hown.kept hgrow1 (.inr (by simp [Value.ownBlock]))
      have hnx1 : Below w.heap.size w w1 := hnx.grown hgrow1 hnx.size (fun j hj => by cases hj)
      clear hown hgrow1 hnx
      obtain ⟨R, hRw⟩ : ∃ R, wc.heap.size = R := ⟨_, rfl⟩
      rw [hRw] at hownR hg0 ⊢
      clear hRw
      obtain ⟨N, hN⟩ : ∃ N, valBE 256 (A.drop z) = N := ⟨_, rfl⟩
      have hNA : N = valBE 256 A := by rw [← hN, ← Plain.valBE_zeros 256 A z HL.out.2.1]
      have hNlt : N < 256 ^ L := by
        have h := Plain.valBE_lt 256 (by omega) (A.drop z) (fun y hy => hA.lt y (List.mem_of_mem_drop hy))
        rwa [hAd, hN] at h
      have HN : Hid (valBE 256 (A.drop z) = N) := hN
      have HNA : Hid (N = valBE 256 A) := hNA
      have HNlt : Hid (N < 256 ^ L) := hNlt
      clear hN hNA hNlt
      go_upto_block 4 with fail
      go_cut [6] from 54 to 108 (fun s6 wx => ∃ (ds : List Nat) (n : Nat), n ≤ 2 * L + 2 ∧ s6 = .slice (some ⟨R, 0, none⟩) n (2 * L + 2) ∧
          wx.ownsRow w.heap.size 5 1 (.slice (some ⟨R, 0, none⟩) n (2 * L + 2)) n (B8 (ds.map al)) ∧ Hid (Rep 58 ds 0 N) ∧ Below w.heap.size w wx)
      case first =>
        go_wp2_with fail
        go_loopg [6, 7, 8] (2 * L + 2) (fun g s6 s7 s8 wx => ∃ (st n : Nat) (ns ds : List Nat), n ≤ 137 * L / 100 + 1 ∧ g = 2 * L + 2 - n ∧ st ≤ L ∧ s7 = .int .i64 st ∧ s8 = .int .i64 n ∧ s6 = .slice (some ⟨R, 0, none⟩) n (2 * L + 2) ∧
          wx.ownsRow w.heap.size 5 1 (.slice (some ⟨R, 0, none⟩) n (2 * L + 2)) n (B8 (ds.map al)) ∧
          wx.ownsRow w.heap.size 5 1 (.slice (some ⟨w.heap.size, 0, none⟩) L L) L (B8 ns) ∧
          Hid (Rep 58 ds (valBE 256 ns) N) ∧ Hid (∀ d ∈ ns, d < 256) ∧ Hid (∀ j, j < st → ns.getD j 0 = 0) ∧ Hid (st < L → ns.getD st 0 ≠ 0) ∧ Below w.heap.size w wx)
        case atStart =>
          refine ⟨0, 0, A.drop z, [], Nat.zero_le _, rfl, Nat.zero_le _, rfl, rfl, rfl, hownR, hownN, ?_, fun d hd => hA.lt d (List.mem_of_mem_drop hd), fun j hj => by omega, ?_, hnx1⟩
          · rw [HN.out]; exact Rep.nil 58 N
          · intro h; rw [getD_drop]; exact HL.out.2.2 (by rw [hA.size]; omega)
        case round =>
          obtain ⟨st, n, ns, ds, hn, rfl, hst, rfl, rfl, rfl, hownR1, hownN1, HR, H256, HZ, HT, hn1⟩ := hrel
          clear hownR hownN hnx1
          have hlN := own_len hownN1
          have hlR := own_len hownR1
          rw [List.length_map] at hlR
          by_cases hlt : st < L
          · have HP : Hid (0 < valBE 256 ns) := Plain.pos_of_at (by omega) (HT.out hlt)
            go_upto_block 6 with fail
            obtain ⟨wo, rfl⟩ : ∃ wo : World, wo = wr := ⟨_, rfl⟩
            go_cut [9] from 69 to 90 (fun s9 wx => ∃ (r : Nat) (cur : List Nat), s9 = .int .i64 r ∧ Hid (Div ns cur L r) ∧ Hid (∀ j, j < st → cur.getD j 0 = 0) ∧
              wx.ownsRow w.heap.size 5 1 (.slice (some ⟨R, 0, none⟩) n (2 * L + 2)) n (B8 (ds.map al)) ∧
              wx.ownsRow w.heap.size 5 1 (.slice (some ⟨w.heap.size, 0, none⟩) L L) L (B8 cur) ∧ Below w.heap.size w wx)
            case first =>
              go_wp2_with fail
              go_loopg [9, 10] (L - st) (fun g s9 s10 wx => ∃ (i r : Nat) (cur : List Nat), st ≤ i ∧ i ≤ L ∧ g = L - i ∧ s10 = .int .i64 i ∧ s9 = .int .i64 r ∧ r < 58 ∧ Hid (Div ns cur i r) ∧ Hid (∀ j, j < st → cur.getD j 0 = 0) ∧
                wx.ownsRow w.heap.size 5 1 (.slice (some ⟨R, 0, none⟩) n (2 * L + 2)) n (B8 (ds.map al)) ∧
                wx.ownsRow w.heap.size 5 1 (.slice (some ⟨w.heap.size, 0, none⟩) L L) L (B8 cur) ∧ Below w.heap.size w wx)
              case atStart => exact ⟨st, 0, ns, Nat.le_refl _, hst, rfl, rfl, rfl, by omega, Div.start HZ.out H256.out, HZ, hownR1, hownN1, hn1⟩
              case round =>
                obtain ⟨i, r, cur, hsti, hiL, rfl, rfl, rfl, hr, HM, HZc, hownR2, hownN2, hn2⟩ := hrel
                clear hownR1 hownN1 hn1
                by_cases hil : i < L
                · obtain ⟨x, hx⟩ : ∃ x, ns.getD i 0 = x := ⟨_, rfl⟩
                  have hx256 : x < 256 := by rw [← hx]; exact getD_lt H256.out _ (by omega)
                  have hcx := own_cell hownN2 i hil
                  rw [HM.out.same, hx] at hcx
                  have hfz := hownN2.frozenAt i
                  have HO : Hid (_ ∧ _) := own_store hownN2 i ((r * 256 + x) / 58) (V := ((r : Int) * 256 + (x : Int)) / 58) (by omega)
                  have HRk : Hid (_) := hownR2.kept HO.out.2 (.inr (by simp [Value.ownBlock]; omega))
                  have HM2 : Hid (Div ns (cur.set i ((r * 256 + x) / 58)) (i + 1) ((r * 256 + x) % 58)) := by
                    have := HM.out.step (show i < ns.length by omega) H256.out
                    rwa [hx] at this
                  clear hx
                  go_wp2
                  go_roundg (L - (i + 1))
                  case measure => omega
                  case rel => exact ⟨i + 1, (r * 256 + x) % 58, cur.set i ((r * 256 + x) / 58), by omega, by omega, rfl, by go_num, by go_num, by omega, HM2, set_zeros HZc.out hsti, HRk.out, HO.out.1, hn2.grown HO.out.2 hn2.size (fun j hj => by cases hj; exact Nat.le_refl _)⟩
                · go_wp2
                  go_meet
                  obtain rfl : i = L := by omega
                  exact ⟨r, cur, rfl, HM, HZc, hownR2, hownN2, hn2⟩
            case rest =>
              obtain ⟨r, cur, rfl, HM, HZc, hownR2, hownN2, hn2⟩ := hcut
              clear hownR1 hownN1 hn1
              have hr : r < 58 := HM.out.small
              have HM' : Hid (Div ns cur ns.length r) := by rw [hlN]; exact HM
              have HRd : Hid (Rep 58 (ds ++ [r]) (valBE 256 cur) N) := HR.out.divided HM'.out.done hr HP.out
              have hroom : n + 1 ≤ 137 * L / 100 + 1 := by
                have h1 := HRd.out.len HNlt.out
                rw [List.length_append, List.length_singleton] at h1
                omega
              have hlC := own_len hownN2
              go_wp2_with (first
                | (go_at_call 19; refine (char_any r _ hr).mono ?_; rintro e w' ⟨rfl, rfl⟩)
                | (at_builtin; refine wpList_append_fits _ rfl _ _ 22 rfl w.heap.size 5 i0 1 Try.underlying22 hi hz1 R n (2 * L + 2) _ rfl (hownR2.alloc _) ⟨wc.heap.size, 0, none⟩ 1 1 [.int .u8 ((al r : Nat) : Int)] rfl rfl (new_cell _ _ _) ?c2 (by omega) ?_))
              case c2 => intro u hu; simp at hu; subst hu; rfl
              intro w2 hown2 hgrow2
              have HO : Hid (w2.ownsRow w.heap.size 5 1 (.slice (some ⟨R, 0, none⟩) (n + 1) (2 * L + 2)) (n + 1) (B8 ((ds ++ [r]).map al))) := by
                rw [List.map_append]; exact own_snoc hown2 (al r) rfl
              have HNk : Hid (_) := (hownN2.alloc (.cells #[.int .u8 ((al r : Nat) : Int)] 5)).kept hgrow2 (.inr (by simp [Value.ownBlock]; omega))
              have HB : Hid (Below w.heap.size w w2) := (hn2.alloc hn2.size _).grown hgrow2 (by simp; have := hn2.size; omega) (fun j hj => by cases hj; omega)
              clear hown2 hgrow2 hownR2 hownN2
              go_wp2_with fail
              go_loopg [7] (L - st) (fun g s7 wx => w2 = wx ∧ ∃ t : Nat, t ≤ L ∧ g = L - t ∧ s7 = .int .i64 t ∧ Hid (∀ j, j < t → cur.getD j 0 = 0))
              case atStart => exact ⟨rfl, st, hst, rfl, rfl, HZc⟩
              case round =>
                obtain ⟨rfl, t, htL, rfl, rfl, HZt⟩ := hrel
                by_cases htl : t < L
                · obtain ⟨x, hx⟩ : ∃ x, cur.getD t 0 = x := ⟨_, rfl⟩
                  have hcx := own_cell HNk.out t htl
                  rw [hx] at hcx
                  have HX : Hid (cur.getD t 0 = x) := hx
                  clear hx
                  by_cases hx0 : x = 0
                  · subst hx0
                    go_wp2
                    go_roundg (L - (t + 1))
                    case measure => omega
                    case rel => exact ⟨rfl, t + 1, by omega, rfl, by go_num, lead_more HZt.out HX.out⟩
                  · have hx0' : 0 < x := by omega
                    go_wp2
                    go_roundg (2 * L + 2 - (n + 1))
                    case measure => omega
                    case rel => exact ⟨t, n + 1, cur, ds ++ [r], hroom, rfl, htL, rfl, by go_num, rfl, HO.out, HNk.out, HRd, HM.out.lt, HZt, fun _ => by rw [HX.out]; exact hx0, HB.out⟩
                · go_wp2
                  go_roundg (2 * L + 2 - (n + 1))
                  case measure => omega
                  case rel => exact ⟨t, n + 1, cur, ds ++ [r], hroom, rfl, htL, rfl, by go_num, rfl, HO.out, HNk.out, HRd, HM.out.lt, HZt, fun h => absurd h htl, HB.out⟩
          · go_wp2
            go_meet
            refine ⟨ds, n, by omega, rfl, hownR1, ?_, hn1⟩
            have h := HR.out
            rwa [valBE_all_zero HZ.out (by omega)] at h
      case rest =>
        obtain ⟨ds, n, hn, rfl, hownR1, HR, hn1⟩ := hcut
        clear hownR hownN hnx1
        go_wp2_with (at_make; refine wpList_make_part _ rfl _ _ 22 rfl w.heap.size 5 i0 (.int .u8 0) Try.underlying22 hi hz0 hz1 rfl _ _ _ _ 0 (z + n) rfl rfl (by omega) (by omega) (Nat.zero_le _) ?b2 ?b3 hn1.size ?_)
        case b2 => rw [hz2]; omega
        case b3 => unfold maxLen; omega
        intro w3 hownO hgrow3
        have hgR : R < wc.heap.size := own_lt hownR1
        have hownR3 := hownR1.kept hgrow3 (.inr (by simp [Value.ownBlock]))
        have hnx3 : Below w.heap.size w w3 := hn1.grown hgrow3 hn1.size (fun j hj => by cases hj)
        clear hownR1 hgrow3 hn1
        obtain ⟨T, hTw⟩ : ∃ T, wc.heap.size = T := ⟨_, rfl⟩
        rw [hTw] at hownO hgR ⊢
        clear hTw
        go_upto_block 10 with fail
        go_cut [12] from 114 to 121 (fun s12 wx => s12 = .slice (some ⟨T, 0, none⟩) z (z + n) ∧ wx.ownsRow w.heap.size 5 1 (.slice (some ⟨T, 0, none⟩) z (z + n)) z (B8 (List.replicate z 49)) ∧
            wx.ownsRow w.heap.size 5 1 (.slice (some ⟨R, 0, none⟩) n (2 * L + 2)) n (B8 (ds.map al)) ∧ Below w.heap.size w wx)
        case first =>
          go_wp2_with fail
          go_loopg [12, 13] z (fun g s12 s13 wx => ∃ i : Nat, i ≤ z ∧ g = z - i ∧ s13 = .int .i64 i ∧ s12 = .slice (some ⟨T, 0, none⟩) i (z + n) ∧ wx.ownsRow w.heap.size 5 1 (.slice (some ⟨T, 0, none⟩) i (z + n)) i (B8 (List.replicate i 49)) ∧
            wx.ownsRow w.heap.size 5 1 (.slice (some ⟨R, 0, none⟩) n (2 * L + 2)) n (B8 (ds.map al)) ∧ Below w.heap.size w wx)
          case atStart => exact ⟨0, Nat.zero_le _, rfl, rfl, rfl, hownO, hownR3, hnx3⟩
          case round =>
            obtain ⟨i, hiz, rfl, rfl, rfl, hownO1, hownR4, hn4⟩ := hrel
            clear hownO hownR3 hnx3
            by_cases hilt : i < z
            · go_wp2_with (at_builtin; refine wpList_append_fits _ rfl _ _ 22 rfl w.heap.size 5 i0 1 Try.underlying22 hi hz1 T i (z + n) _ rfl (hownO1.alloc _) ⟨wr.heap.size, 0, none⟩ 1 1 [.int .u8 49] rfl rfl (new_cell _ _ _) ?c2 (by omega) ?_)
              case c2 => intro u hu; simp at hu; subst hu; rfl
              intro w4 hown4 hgrow4
              have HO : Hid (_) := own_snoc hown4 49 rfl
              have HD : Hid (_) := (hownR4.alloc (.cells #[.int .u8 49] 5)).kept hgrow4 (.inr (by simp [Value.ownBlock]; omega))
              have HB : Hid (Below w.heap.size w w4) := (hn4.alloc hn4.size _).grown hgrow4 (by simp; have := hn4.size; omega) (fun j hj => by cases hj; omega)
              clear hown4 hgrow4 hownO1 hownR4
              go_wp2
              go_roundg (z - (i + 1))
              case measure => omega
              case rel => exact ⟨i + 1, by omega, rfl, by go_num, rfl, by rw [List.replicate_succ']; exact HO.out, HD.out, HB.out⟩
            · go_wp2
              go_meet
              obtain rfl : i = z := by omega
              exact ⟨rfl, hownO1, hownR4, hn4⟩
        case rest =>
          obtain ⟨rfl, hownO1, hownR4, hn4⟩ := hcut
          clear hownO hownR3 hnx3
          go_wp2_with fail
          go_loopg [12, 14] n (fun g s12 s14 wx => ∃ j : Nat, j ≤ n ∧ j = g ∧ s14 = .int .i64 ((j : Int) - 1) ∧ s12 = .slice (some ⟨T, 0, none⟩) (z + (n - j)) (z + n) ∧
            wx.ownsRow w.heap.size 5 1 (.slice (some ⟨T, 0, none⟩) (z + (n - j)) (z + n)) (z + (n - j)) (B8 (txt z (ds.drop j))) ∧
            wx.ownsRow w.heap.size 5 1 (.slice (some ⟨R, 0, none⟩) n (2 * L + 2)) n (B8 (ds.map al)) ∧ Below w.heap.size w wx)
          case atStart =>
            refine ⟨n, Nat.le_refl _, rfl, rfl, by rw [Nat.sub_self, Nat.add_zero], ?_, hownR4, hn4⟩
            have hlD := own_len hownR4
            rw [List.length_map] at hlD
            rw [Nat.sub_self, Nat.add_zero, List.drop_eq_nil_of_le (by omega), txt_nil]
            exact hownO1
          case round =>
            obtain ⟨j, hj, rfl, rfl, rfl, hownT1, hownD1, hn5⟩ := hrel
            clear hownO1 hownR4 hn4
            by_cases hj0 : 0 < j
            · obtain ⟨t, rfl⟩ : ∃ t, j = t + 1 := ⟨j - 1, by omega⟩
              rw [show (((t + 1 : Nat) : Int) - 1) = (t : Int) by omega]
              have hlD := own_len hownD1
              rw [List.length_map] at hlD
              have hcx := own_cell hownD1 t (by omega)
              rw [map_getD ds t (by omega)] at hcx
              obtain ⟨x, hx⟩ : ∃ x, ds.getD t 0 = x := ⟨_, rfl⟩
              rw [hx] at hcx
              have HX : Hid (ds.getD t 0 = x) := hx
              clear hx
              go_wp2_with (at_builtin; refine wpList_append_fits _ rfl _ _ 22 rfl w.heap.size 5 i0 1 Try.underlying22 hi hz1 T (z + (n - (t + 1))) (z + n) _ rfl (hownT1.alloc _) ⟨wr.heap.size, 0, none⟩ 1 1 [.int .u8 ((al x : Nat) : Int)] rfl rfl (new_cell _ _ _) ?c2 (by omega) ?_)
              case c2 => intro u hu; simp at hu; subst hu; rfl
              intro w2 hown2 hgrow2
              have HO : Hid (_) := own_snoc hown2 (al x) rfl
              have HD : Hid (_) := (hownD1.alloc (.cells #[.int .u8 ((al x : Nat) : Int)] 5)).kept hgrow2 (.inr (by simp [Value.ownBlock]; omega))
              have HB : Hid (Below w.heap.size w w2) := (hn5.alloc hn5.size _).grown hgrow2 (by simp; have := hn5.size; omega) (fun j hj => by cases hj; omega)
              clear hown2 hgrow2 hownT1 hownD1
              go_wp2
              go_roundg t
              case measure => omega
              case rel =>
                refine ⟨t, by omega, rfl, by go_num, by rw [show z + (n - (t + 1)) + 1 = z + (n - t) by omega], ?_, HD.out, HB.out⟩
                have h := HO.out
                rw [txt_snoc ds z t (by omega) HX.out] at h
                rwa [show z + (n - (t + 1)) + 1 = z + (n - t) by omega] at h
            · obtain rfl : j = 0 := by omega
              rw [Nat.sub_zero] at hownT1 ⊢
              have hcv := conv_str hownT1
              go_wp2
              go_ret
              exact ⟨z, ds, HL.out, by rw [← HNA.out]; exact HR.out, rfl, hn5⟩
end Go.Proofs.Qxb6605995a
