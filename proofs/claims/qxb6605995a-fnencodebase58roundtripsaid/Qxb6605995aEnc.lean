import Derived.Test.Qxb6605995aRow
namespace Go.Proofs.Qxb6605995a
open Go.RowKit
open Plain (val valBE Rep Mid)

/-- The letters. -/
def al (d : Nat) : Nat := [49, 50, 51, 52, 53, 54, 55, 56, 57, 65, 66, 67, 68, 69, 70, 71, 72, 74, 75, 76, 77, 78, 80, 81, 82, 83, 84, 85, 86, 87, 88, 89, 90, 97, 98, 99, 100, 101, 102, 103, 104, 105, 106, 107, 109, 110, 111, 112, 113, 114, 115, 116, 117, 118, 119, 120, 121, 122].getD d 0
/-- How many noughts lead. -/
def Lead (A : List Nat) (z : Nat) : Prop := z ≤ A.length ∧ (∀ j, j < z → A.getD j 0 = 0) ∧ (z < A.length → A.getD z 0 ≠ 0)
/-- The text: a '1' for each leading nought, then the digits, the most significant first. -/
def txt (z : Nat) (ds : List Nat) : List Nat := List.replicate z 49 ++ ds.reverse.map al

theorem lead_more {A : List Nat} {z : Nat} (h : ∀ j, j < z → A.getD j 0 = 0) (h0 : A.getD z 0 = 0) : ∀ j, j < z + 1 → A.getD j 0 = 0 := by
  intro j hj
  rcases Nat.lt_or_ge j z with hz | hz
  · exact h j hz
  · obtain rfl : j = z := by omega
    exact h0

def abc : ByteArray := { data := #[49, 50, 51, 52, 53, 54, 55, 56, 57, 65, 66, 67, 68, 69, 70, 71, 72, 74, 75, 76, 77, 78, 80, 81, 82, 83, 84, 85, 86, 87, 88, 89, 90, 97, 98, 99, 100, 101, 102, 103, 104, 105, 106, 107, 109, 110, 111, 112, 113, 114, 115, 116, 117, 118, 119, 120, 121, 122] }
theorem abc_at_all : ∀ d : Fin 58, (abc[d.val]'(d.isLt)).toNat = al d.val := by decide
theorem abc_at (d : Nat) (h : d < 58) : ((abc[d]'h).toNat : Int) = ((al d : Nat) : Int) := by rw [abc_at_all ⟨d, h⟩]
theorem txt_nil (z : Nat) : txt z [] = List.replicate z 49 := by simp [txt]
theorem txt_snoc (ds : List Nat) (z t : Nat) (h : t < ds.length) {x : Nat} (hx : ds.getD t 0 = x) : txt z (ds.drop (t + 1)) ++ [al x] = txt z (ds.drop t) := by
  rw [Plain.drop_cons ds t h, hx]; simp [txt]
theorem fill_step {C : List Nat} {i : Nat} (h : C.take i = List.replicate i 49) (hC : i < C.length) : (C.set i 49).take (i + 1) = List.replicate (i + 1) 49 := by
  rw [Plain.take_snoc _ _ (by simpa using hC), List.take_set_of_le (Nat.le_refl i), h, List.replicate_succ']
  congr 1
  simp [hC]

set_option maxHeartbeats 2000000 in
set_option maxRecDepth 100000 in
theorem encode_any (b off len cap : Nat) (A : List Nat) (w : World) (hl : len ≤ 4096) (hlc : len ≤ cap) (hA : Lies w b off len A) :
    Calls Try.prog 18 #[.slice (some ⟨b, off, none⟩) len cap] w fun e w' => ∃ z ds, Lead A z ∧ Rep 58 ds 0 (valBE 256 A) ∧ e = .returned (.string (mkS (txt z ds))) ∧ Below w.heap.size w w' := by
  obtain ⟨i0, hi, hz0, hz1, hz2⟩ := info_parts Try.info5
  go_enter Try.func18, Try.ntmps18
  go_upto_block 0 with fail
  go_cut [3] from 12 to 24 (fun s3 wx => w = wx ∧ ∃ z : Nat, s3 = .int .i64 z ∧ Lead A z)
  case first =>
    go_wp2_with fail
    go_loopg [3] len (fun g s3 wx => w = wx ∧ ∃ z : Nat, z ≤ len ∧ g = len - z ∧ s3 = .int .i64 z ∧ Hid (∀ j, j < z → A.getD j 0 = 0))
    case atStart => exact ⟨rfl, 0, Nat.zero_le _, rfl, rfl, fun j hj => by omega⟩
    case round =>
      obtain ⟨rfl, z, hz, rfl, rfl, HZ⟩ := hrel
      by_cases hlt : z < len
      · obtain ⟨d, hd⟩ : ∃ d, A.getD z 0 = d := ⟨_, rfl⟩
        have hc := hA.cell z hlt
        rw [hd] at hc
        have HD : Hid (A.getD z 0 = d) := hd
        clear hd
        by_cases h0 : d = 0
        · subst h0
          go_wp2
          go_roundg (len - (z + 1))
          case measure => omega
          case rel => exact ⟨rfl, z + 1, by omega, rfl, by go_num, lead_more HZ.out HD.out⟩
        · have h0' : 0 < d := by omega
          go_wp2
          go_meet
          exact ⟨rfl, z, rfl, by rw [hA.size]; exact hz, HZ.out, fun _ => by rw [HD.out]; omega⟩
      · go_wp2
        go_meet
        exact ⟨rfl, z, rfl, by rw [hA.size]; exact hz, HZ.out, fun h => by rw [hA.size] at h; omega⟩
  case rest =>
    obtain ⟨rfl, z, rfl, hL⟩ := hcut
    have hz : z ≤ len := by have := hL.1; rwa [hA.size] at this
    have HL : Hid (Lead A z) := hL
    clear hL
    go_upto_region 5 with (at_make; refine wpList_make_part _ rfl _ _ 22 rfl w.heap.size 5 i0 (.int .u8 0) Try.underlying22 hi hz0 hz1 rfl _ _ _ _ 0 (len * 137 / 100 + 1) rfl rfl (by omega) (by omega) (Nat.zero_le _) ?b2 ?b3 (Nat.le_refl _) ?_)
    case b2 => rw [hz2]; omega
    case b3 => unfold maxLen; omega
    intro w0 hown0 hgrow0
    go_upto_region 5 with fail
    go_cut [33, 34, 35] from 31 to 35 (fun s33 s34 s35 wx => w0 = wx ∧ s34 = .int .i64 ((len - z : Nat) : Int) ∧ s35 = .int .i64 0 ∧ ∃ ad c, s33 = .slice (some ad) (len - z) c ∧ Hid (z < len → ad = ⟨b, off + z, none⟩))
    case first =>
      by_cases hzc : cap = z
      · subst hzc
        go_wp2
        go_meet
        exact ⟨rfl, by go_num, rfl, _, _, by rw [show len - cap = 0 by omega], fun h => by omega⟩
      · go_wp2
        go_meet
        exact ⟨rfl, by go_num, rfl, _, _, rfl, fun h => rfl⟩
    case rest =>
      obtain ⟨rfl, rfl, rfl, ad, c, rfl, HAD⟩ := hcut
      go_upto_block 2 with fail
      go_cut [4] from 36 to 73 (fun s4 wx => ∃ (ds : List Nat) (n : Nat), s4 = .slice (some ⟨w.heap.size, 0, none⟩) n (len * 137 / 100 + 1) ∧
          wx.ownsRow w.heap.size 5 1 (.slice (some ⟨w.heap.size, 0, none⟩) n (len * 137 / 100 + 1)) n (B8 ds) ∧ Rep 58 ds 0 (valBE 256 A) ∧ Below w.heap.size w wx)
      case first =>
        go_wp2_with fail
        go_loopg [4, 35] (len - z) (fun g s4 s35 wx => ∃ (k n : Nat) (ds : List Nat), k ≤ len - z ∧ g = len - z - k ∧ s35 = .int .i64 k ∧ s4 = .slice (some ⟨w.heap.size, 0, none⟩) n (len * 137 / 100 + 1) ∧
          wx.ownsRow w.heap.size 5 1 (.slice (some ⟨w.heap.size, 0, none⟩) n (len * 137 / 100 + 1)) n (B8 ds) ∧ Rep 58 ds 0 (valBE 256 ((A.drop z).take k)) ∧ Below w.heap.size w wx)
        case atStart => exact ⟨0, 0, [], Nat.zero_le _, rfl, rfl, rfl, hown0, Rep.nil 58 0, (Below.refl _ _).grown hgrow0 (Nat.le_refl _) (fun k h => by cases h)⟩
        case round =>
          obtain ⟨k, n, ds, hk, rfl, rfl, rfl, hown, hR, hnx⟩ := hrel
          have HR : Hid (Rep 58 ds 0 (valBE 256 ((A.drop z).take k))) := hR
          clear hR hown0 hgrow0
          by_cases hlt : k < len - z
          · obtain rfl := HAD.out (by omega)
            obtain ⟨d, hd⟩ : ∃ d, A.getD (z + k) 0 = d := ⟨_, rfl⟩
            have hd256 : d < 256 := by rw [← hd]; exact getD_lt hA.lt _ (by rw [hA.size]; omega)
            have hc := hA.cell (z + k) (by omega)
            rw [hd, ← Nat.add_assoc] at hc
            have hcr : wr.cell? ⟨b, off + z + k, none⟩ = some (.int .u8 (d : Int)) := (hnx.cell (p := ⟨b, off + z + k, none⟩) hA.block).trans hc
            have HD : Hid (A.getD (z + k) 0 = d) := hd
            clear hd hc
            go_upto_block 4 with fail
            obtain ⟨wo, rfl⟩ : ∃ wo : World, wo = wr := ⟨_, rfl⟩
            go_cut [7] from 44 to 62 (fun s7 wx => ∃ (c : Nat) (cur : List Nat), s7 = .int .i64 c ∧ c ≤ 255 ∧
              wx.ownsRow w.heap.size 5 1 (.slice (some ⟨w.heap.size, 0, none⟩) n (len * 137 / 100 + 1)) n (B8 cur) ∧ Hid (Rep 58 cur c (d + 256 * valBE 256 ((A.drop z).take k))) ∧ Below w.heap.size w wx)
            case first =>
              go_wp2_with fail
              go_loopg [7, 43] n (fun g s7 s43 wx => ∃ (i c : Nat) (cur : List Nat), i ≤ n ∧ g = n - i ∧ s43 = .int .i64 i ∧ s7 = .int .i64 c ∧ c ≤ 255 ∧
                wx.ownsRow w.heap.size 5 1 (.slice (some ⟨w.heap.size, 0, none⟩) n (len * 137 / 100 + 1)) n (B8 cur) ∧ Hid (Mid 58 256 ds cur i c d) ∧ Below w.heap.size w wx)
              case atStart => exact ⟨0, d, ds, Nat.zero_le _, rfl, rfl, rfl, by omega, hown, Mid.start 58 256 ds d, hnx⟩
              case round =>
                obtain ⟨i, c, cur, hin, rfl, rfl, rfl, hc255, howni, HM, hni⟩ := hrel
                have hlen := own_len hown
                have hcapn := own_cap hown
                clear hown hcr
                by_cases hil : i < n
                · obtain ⟨x, hx⟩ : ∃ x, ds.getD i 0 = x := ⟨_, rfl⟩
                  have hx58 : x < 58 := by rw [← hx]; exact getD_lt HR.out.lt _ (by omega)
                  have hcx := own_cell howni i hil
                  rw [HM.out.same, hx] at hcx
                  have hfz := howni.frozenAt i
                  have HX : Hid (ds.getD i 0 = x) := hx
                  have HO : Hid (_ ∧ _) := own_store howni i ((c + x * 256) % 58) (V := ((c : Int) + (x : Int) * 256) % 58) (by omega)
                  have HM2 : Hid (Mid 58 256 ds (cur.set i ((c + x * 256) % 58)) (i + 1) ((c + x * 256) / 58) d) := by
                    have := HM.out.step (by omega) (show i < ds.length by omega)
                    rwa [hx] at this
                  clear hx
                  go_wp2
                  go_roundg (n - (i + 1))
                  case measure => omega
                  case rel => exact ⟨i + 1, (c + x * 256) / 58, cur.set i ((c + x * 256) % 58), by omega, rfl, by go_num, by go_num, by omega, HO.out.1, HM2, hni.grown HO.out.2 hni.size (fun j hj => by cases hj; exact Nat.le_refl _)⟩
                · go_wp2
                  go_meet
                  refine ⟨c, cur, rfl, hc255, howni, ?_, hni⟩
                  obtain rfl : i = ds.length := by omega
                  exact HM.out.done (by omega) HR.out
            case rest =>
              obtain ⟨c, cur, rfl, hc255, howni, HRc, hni⟩ := hcut
              have hT : d + 256 * valBE 256 ((A.drop z).take k) = valBE 256 ((A.drop z).take (k + 1)) := by
                rw [Plain.valBE_take 256 (A.drop z) k (by rw [List.length_drop, hA.size]; omega)]
                rw [show (A.drop z).getD k 0 = d by rw [← HD.out]; simp [List.getD_eq_getElem?_getD]]
              have hTlt : valBE 256 ((A.drop z).take (k + 1)) < 256 ^ (k + 1) := by
                have h := Plain.valBE_lt 256 (by omega) ((A.drop z).take (k + 1)) (fun y hy => hA.lt y (List.mem_of_mem_drop (List.mem_of_mem_take hy)))
                rwa [List.length_take, List.length_drop, hA.size, Nat.min_eq_left (by omega)] at h
              have HRc' : Hid (Rep 58 cur c (valBE 256 ((A.drop z).take (k + 1)))) := by rw [← hT]; exact HRc
              have HT : Hid (valBE 256 ((A.drop z).take (k + 1)) < 256 ^ (k + 1)) := hTlt
              clear hT hTlt HRc hown hcr
              go_wp2_with fail
              go_loopg [4, 7] c (fun g s4 s7 wx => ∃ (n' c' : Nat) (cur' : List Nat), c' = g ∧ c' ≤ 255 ∧ s7 = .int .i64 c' ∧ s4 = .slice (some ⟨w.heap.size, 0, none⟩) n' (len * 137 / 100 + 1) ∧
                wx.ownsRow w.heap.size 5 1 (.slice (some ⟨w.heap.size, 0, none⟩) n' (len * 137 / 100 + 1)) n' (B8 cur') ∧ Hid (Rep 58 cur' c' (valBE 256 ((A.drop z).take (k + 1)))) ∧ Below w.heap.size w wx)
              case atStart => exact ⟨n, c, cur, rfl, hc255, rfl, rfl, howni, HRc', hni⟩
              case round =>
                obtain ⟨n', c', cur', rfl, hc', rfl, rfl, hown', HR', hn'⟩ := hrel
                clear howni hni HRc'
                by_cases hc0 : 0 < c'
                · have HP : Hid (Rep 58 (cur' ++ [c' % 58]) (c' / 58) (valBE 256 ((A.drop z).take (k + 1)))) := HR'.out.push (by omega) hc0
                  have hroom : n' + 1 ≤ len * 137 / 100 + 1 := by
                    have h1 := HP.out.len HT.out
                    have h2 := own_len hown'
                    rw [List.length_append, List.length_singleton] at h1
                    omega
                  go_wp2_with (at_builtin; refine wpList_append_fits _ rfl _ _ 22 rfl w.heap.size 5 i0 1 Try.underlying22 hi hz1 w.heap.size n' (len * 137 / 100 + 1) _ rfl (hown'.alloc _) ⟨wr.heap.size, 0, none⟩ 1 1 [.int .u8 ((c' : Int) % 58)] rfl rfl (new_cell _ _ _) ?c2 hroom ?_)
                  case c2 => intro u hu; simp at hu; subst hu; rfl
                  intro w1 hown1 hgrow1
                  have HO : Hid (_) := own_snoc hown1 (c' % 58) (by omega)
                  have HB : Hid (Below w.heap.size w w1) := (hn'.alloc hn'.size _).grown hgrow1 (by simp; have := hn'.size; omega) (fun j hj => by cases hj; exact Nat.le_refl _)
                  clear hown1 hgrow1 hown'
                  go_wp2
                  go_roundg (c' / 58)
                  case measure => omega
                  case rel => exact ⟨n' + 1, c' / 58, cur' ++ [c' % 58], rfl, by omega, by go_num, rfl, HO.out, HP, HB.out⟩
                · obtain rfl : c' = 0 := by omega
                  go_wp2
                  go_roundg (len - z - (k + 1))
                  case measure => omega
                  case rel => exact ⟨k + 1, n', cur', by omega, rfl, by go_num, rfl, hown', HR'.out, hn'⟩
          · go_wp2
            go_meet
            refine ⟨ds, n, rfl, hown, ?_, hnx⟩
            have h := HR.out
            rwa [List.take_of_length_le (by rw [List.length_drop, hA.size]; omega), ← Plain.valBE_zeros 256 A z HL.out.2.1] at h
      case rest => 
        obtain ⟨ds, n, rfl, hown, hR, hnx⟩ := hcut
        clear hown0 hgrow0
        have HR : Hid (Rep 58 ds 0 (valBE 256 A)) := hR
        have hcapn := own_cap hown
        clear hR HAD
        go_wp2_with (at_make; refine wpList_make_part _ rfl _ _ 22 rfl w.heap.size 5 i0 (.int .u8 0) Try.underlying22 hi hz0 hz1 rfl _ _ _ _ z (z + n) rfl rfl (by omega) (by omega) (by omega) ?b2 ?b3 hnx.size ?_)
        case b2 => rw [hz2]; omega
        case b3 => unfold maxLen; omega
        intro w1 hown1 hgrow1
        have hg0 : w.heap.size < wc.heap.size := own_lt hown
        have hownD := hown.kept hgrow1 (.inr (by simp [Value.ownBlock]))
        have hnx1 : Below w.heap.size w w1 := hnx.grown hgrow1 hnx.size (fun j hj => by cases hj)
        rw [show (Value.int .u8 0) = .int .u8 ((0 : Nat) : Int) from rfl, B8_replicate] at hown1
        clear hown hgrow1 hnx
        obtain ⟨T, hTw⟩ : ∃ T, wc.heap.size = T := ⟨_, rfl⟩
        rw [hTw] at hown1 hg0 ⊢
        clear hTw
        go_upto_block 8 with fail
        go_cut [] from 83 to 89 (fun wx => wx.ownsRow w.heap.size 5 1 (.slice (some ⟨T, 0, none⟩) z (z + n)) z (B8 (List.replicate z 49)) ∧
            wx.ownsRow w.heap.size 5 1 (.slice (some ⟨w.heap.size, 0, none⟩) n (len * 137 / 100 + 1)) n (B8 ds) ∧ Below w.heap.size w wx)
        case first =>
          go_wp2_with fail
          go_loopg [82] z (fun g s82 wx => ∃ (i : Nat) (C : List Nat), i ≤ z ∧ g = z - i ∧ s82 = .int .i64 i ∧ wx.ownsRow w.heap.size 5 1 (.slice (some ⟨T, 0, none⟩) z (z + n)) z (B8 C) ∧ Hid (C.take i = List.replicate i 49) ∧
            wx.ownsRow w.heap.size 5 1 (.slice (some ⟨w.heap.size, 0, none⟩) n (len * 137 / 100 + 1)) n (B8 ds) ∧ Below w.heap.size w wx)
          case atStart => exact ⟨0, _, Nat.zero_le _, rfl, rfl, hown1, rfl, hownD, hnx1⟩
          case round =>
            obtain ⟨i, C, hiz, rfl, rfl, hownT, HC, hownD', hn'⟩ := hrel
            clear hown1 hownD hnx1
            have hlC := own_len hownT
            by_cases hilt : i < z
            · have hcx := own_cell hownT i hilt
              obtain ⟨x, hx⟩ : ∃ x, C.getD i 0 = x := ⟨_, rfl⟩
              rw [hx] at hcx
              clear hx
              have hfz := hownT.frozenAt i
              have HO : Hid (_ ∧ _) := own_store hownT i 49 (V := 49) rfl
              have HD : Hid (_) := hownD'.kept HO.out.2 (.inr (by simp [Value.ownBlock]; omega))
              go_wp2
              go_roundg (z - (i + 1))
              case measure => omega
              case rel => exact ⟨i + 1, C.set i 49, by omega, rfl, by go_num, HO.out.1, fill_step HC.out (by omega), HD.out, hn'.grown HO.out.2 hn'.size (fun j hj => by cases hj; omega)⟩
            · go_wp2
              go_meet
              obtain rfl : i = z := by omega
              have h := HC.out
              rw [List.take_of_length_le (by omega)] at h
              subst h
              exact ⟨hownT, hownD', hn'⟩
        case rest =>
          obtain ⟨hownT, hownD', hn'⟩ := hcut
          clear hown1 hownD hnx1
          go_wp2_with fail
          go_loopg [9, 11] n (fun g s9 s11 wx => ∃ j : Nat, j ≤ n ∧ j = g ∧ s11 = .int .i64 ((j : Int) - 1) ∧ s9 = .slice (some ⟨T, 0, none⟩) (z + (n - j)) (z + n) ∧
            wx.ownsRow w.heap.size 5 1 (.slice (some ⟨T, 0, none⟩) (z + (n - j)) (z + n)) (z + (n - j)) (B8 (txt z (ds.drop j))) ∧
            wx.ownsRow w.heap.size 5 1 (.slice (some ⟨w.heap.size, 0, none⟩) n (len * 137 / 100 + 1)) n (B8 ds) ∧ Below w.heap.size w wx)
          case atStart =>
            refine ⟨n, Nat.le_refl _, rfl, rfl, by rw [Nat.sub_self, Nat.add_zero], ?_, hownD', hn'⟩
            rw [Nat.sub_self, Nat.add_zero, List.drop_eq_nil_of_le (by rw [own_len hownD']; exact Nat.le_refl _), txt_nil]
            exact hownT
          case round =>
            obtain ⟨j, hj, rfl, rfl, rfl, hownT1, hownD1, hn1⟩ := hrel
            clear hownT hownD' hn'
            by_cases hj0 : 0 < j
            · obtain ⟨t, rfl⟩ : ∃ t, j = t + 1 := ⟨j - 1, by omega⟩
              rw [show (((t + 1 : Nat) : Int) - 1) = (t : Int) by omega]
              have hlD := own_len hownD1
              have hcx := own_cell hownD1 t (by omega)
              obtain ⟨x, hx⟩ : ∃ x, ds.getD t 0 = x := ⟨_, rfl⟩
              have hx58 : x < 58 := by rw [← hx]; exact getD_lt HR.out.lt _ (by omega)
              rw [hx] at hcx
              have HX : Hid (ds.getD t 0 = x) := hx
              clear hx
              go_wp2_with (at_builtin; refine wpList_append_fits _ rfl _ _ 22 rfl w.heap.size 5 i0 1 Try.underlying22 hi hz1 T (z + (n - (t + 1))) (z + n) _ rfl (hownT1.alloc _) ⟨wr.heap.size, 0, none⟩ 1 1 [.int .u8 ((abc[x]'hx58).toNat : Int)] rfl rfl (new_cell _ _ _) ?c2 (by omega) ?_)
              case c2 => intro u hu; simp at hu; subst hu; rfl
              intro w2 hown2 hgrow2
              have HO : Hid (_) := own_snoc hown2 (al x) (by rw [abc_at])
              have HD : Hid (_) := (hownD1.alloc (.cells #[.int .u8 ((abc[x]'hx58).toNat : Int)] 5)).kept hgrow2 (.inr (by simp [Value.ownBlock]; omega))
              have HB : Hid (Below w.heap.size w w2) := (hn1.alloc hn1.size _).grown hgrow2 (by simp; have := hn1.size; omega) (fun j hj => by cases hj; omega)
              clear hown2 hgrow2 hownT1 hownD1
              go_wp2
              go_roundg t
              case measure => omega
              case rel =>
                refine ⟨t, by omega, rfl, by go_num, by rw [show z + (n - (t + 1)) + 1 = z + (n - t) by omega], ?_, HD.out, HB.out⟩
                have h := HO.out
                rw [txt_snoc ds z t (by omega) HX.out] at h
                rwa [show z + (n - (t + 1)) + 1 = z + (n - t) by omega] at h
            · obtain rfl : j = 0 := by omega
              rw [Nat.sub_zero] at hownT1 ⊢
              have hcv := conv_str hownT1
              go_wp2
              go_ret
              exact ⟨z, ds, HL.out, HR.out, rfl, hn1⟩
end Go.Proofs.Qxb6605995a
