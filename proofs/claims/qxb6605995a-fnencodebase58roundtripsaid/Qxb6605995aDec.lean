import Derived.Test.Qxb6605995aModel
namespace Go.Proofs.Qxb6605995a
open Go.RowKit
open Plain (val valBE Rep Mid)

theorem i64_and255 (n : Int) : bits .and .i64 n 255 = n % 256 := by
  have h255 : (BitVec.ofInt 64 255).toNat = 2 ^ 8 - 1 := by decide
  have key : (BitVec.ofInt 64 n &&& BitVec.ofInt 64 255).toNat = (n % ((2 ^ 64 : Nat) : Int)).toNat % 2 ^ 8 := by
    rw [BitVec.toNat_and, BitVec.toNat_ofInt, h255, Nat.and_two_pow_sub_one_eq_mod]
  show IntKind.i64.wrap ((BitVec.ofInt 64 n &&& BitVec.ofInt 64 255).toNat : Nat) = n % 256
  rw [key, IntKind.wrap_i64]
  omega

/-! ### One letter's digit -/
theorem ret_i64 {a b : Int} (h : a = b) : Ending.returned (.int .i64 a) = .returned (.int .i64 b) := by rw [h]
set_option maxHeartbeats 1000000 in
theorem val_any (v : Nat) (w : World) (h : v < 58) :
    Calls Try.prog 20 #[.int .u8 ((al v : Nat) : Int)] w fun e w' => e = .returned (.int .i64 (v : Int)) ∧ w = w' := by
  have hf : al v = if v < 9 then 49 + v else if v < 17 then 56 + v else if v < 22 then 57 + v else if v < 33 then 58 + v else if v < 44 then 64 + v else 65 + v := al_form_all ⟨v, h⟩
  obtain ⟨c, hc⟩ : ∃ c, al v = c := ⟨_, rfl⟩
  rw [hc] at hf ⊢
  clear hc
  have cases6 : v < 9 ∨ (9 ≤ v ∧ v < 17) ∨ (17 ≤ v ∧ v < 22) ∨ (22 ≤ v ∧ v < 33) ∨ (33 ≤ v ∧ v < 44) ∨ 44 ≤ v := by omega
  rcases cases6 with h1 | ⟨h1, h2⟩ | ⟨h1, h2⟩ | ⟨h1, h2⟩ | ⟨h1, h2⟩ | h1
  · rw [if_pos (by omega)] at hf
    have b1 : 49 ≤ c := by omega
    have b2 : c ≤ 57 := by omega
    have HF : Hid (c = 49 + v) := hf
    clear hf
    go_enter Try.func20, Try.ntmps20
    go_wp2
    go_ret
    exact ⟨ret_i64 (by have := HF.out; omega), rfl⟩
  · rw [if_neg (by omega), if_pos (by omega)] at hf
    have b1 : 65 ≤ c := by omega
    have b2 : c ≤ 72 := by omega
    have n73 : ((c : Int) != 73) = true := by rw [bne_iff_ne]; omega
    have n79 : ((c : Int) != 79) = true := by rw [bne_iff_ne]; omega
    have HF : Hid (c = 56 + v) := hf
    clear hf
    go_enter Try.func20, Try.ntmps20
    go_wp2
    go_ret
    exact ⟨ret_i64 (by have := HF.out; omega), rfl⟩
  · rw [if_neg (by omega), if_neg (by omega), if_pos (by omega)] at hf
    have b1 : 74 ≤ c := by omega
    have b2 : c ≤ 78 := by omega
    have n73 : ((c : Int) != 73) = true := by rw [bne_iff_ne]; omega
    have n79 : ((c : Int) != 79) = true := by rw [bne_iff_ne]; omega
    have HF : Hid (c = 57 + v) := hf
    clear hf
    go_enter Try.func20, Try.ntmps20
    go_wp2
    go_ret
    exact ⟨ret_i64 (by have := HF.out; omega), rfl⟩
  · rw [if_neg (by omega), if_neg (by omega), if_neg (by omega), if_pos (by omega)] at hf
    have b1 : 80 ≤ c := by omega
    have b2 : c ≤ 90 := by omega
    have n73 : ((c : Int) != 73) = true := by rw [bne_iff_ne]; omega
    have n79 : ((c : Int) != 79) = true := by rw [bne_iff_ne]; omega
    have HF : Hid (c = 58 + v) := hf
    clear hf
    go_enter Try.func20, Try.ntmps20
    go_wp2
    go_ret
    exact ⟨ret_i64 (by have := HF.out; omega), rfl⟩
  · rw [if_neg (by omega), if_neg (by omega), if_neg (by omega), if_neg (by omega), if_pos (by omega)] at hf
    have b1 : 97 ≤ c := by omega
    have b2 : c ≤ 107 := by omega
    have HF : Hid (c = 64 + v) := hf
    clear hf
    go_enter Try.func20, Try.ntmps20
    go_wp2
    go_ret
    exact ⟨ret_i64 (by have := HF.out; omega), rfl⟩
  · rw [if_neg (by omega), if_neg (by omega), if_neg (by omega), if_neg (by omega), if_neg (by omega)] at hf
    have b1 : 109 ≤ c := by omega
    have b2 : c ≤ 122 := by omega
    have HF : Hid (c = 65 + v) := hf
    clear hf
    go_enter Try.func20, Try.ntmps20
    go_wp2
    go_ret
    exact ⟨ret_i64 (by have := HF.out; omega), rfl⟩

/-! ### The text's bytes -/
theorem al_lt_all : ∀ v : Fin 58, al v.val < 256 ∧ (al v.val = 49 → v.val = 0) := by decide
theorem al_lt (v : Nat) (h : v < 58) : al v < 256 ∧ (al v = 49 → v = 0) := al_lt_all ⟨v, h⟩
theorem size_mkS (l : List Nat) : (mkS l).size = l.length := by simp [mkS, ByteArray.size]
theorem mkS_at (l : List Nat) (k : Nat) (h : k < (mkS l).size) (hl : l.getD k 0 < 256) : ((mkS l)[k]).toNat = l.getD k 0 := by
  have hk : k < l.length := by rw [size_mkS] at h; exact h
  rw [ByteArray.getElem_eq_getElem_data]
  simp only [mkS, List.getElem_toArray, List.getElem_map]
  rw [List.getD_eq_getElem?_getD, List.getElem?_eq_getElem hk] at hl ⊢
  simp only [Option.getD_some] at hl ⊢
  rw [UInt8.toNat_ofNat']
  exact Nat.mod_eq_of_lt hl
theorem length_txt (z : Nat) (ds : List Nat) : (txt z ds).length = z + ds.length := by simp [txt]
theorem txt_lead (z : Nat) (ds : List Nat) (k : Nat) (h : k < z) : (txt z ds).getD k 0 = 49 := by
  simp [txt, List.getD_eq_getElem?_getD, List.getElem?_append, h]
theorem txt_digit (z : Nat) (ds : List Nat) (k : Nat) (h : k < ds.length) : (txt z ds).getD (z + k) 0 = al (ds.reverse.getD k 0) := by
  simp [txt, List.getD_eq_getElem?_getD, h]
/-- The first digit is no nought. -/
theorem top_ne {ds : List Nat} {N : Nat} (h : Rep 58 ds 0 N) (h0 : 0 < ds.length) : ds.reverse.getD 0 0 ≠ 0 := by
  intro hz
  rcases h.top with rfl | ht
  · simp at h0
  · have hN : val 58 ds = N := by simpa using h.eq
    have e : val 58 ds = valBE 58 ds.reverse := by simp [valBE]
    have e2 : valBE 58 ds.reverse = valBE 58 (ds.reverse.drop 1) := Plain.valBE_zeros 58 ds.reverse 1 (fun j hj => by rw [show j = 0 by omega]; exact hz)
    have hlt := Plain.valBE_lt 58 (by omega) (ds.reverse.drop 1) (fun d hd => h.lt d (by simpa using List.mem_of_mem_drop hd))
    rw [List.length_drop, List.length_reverse] at hlt
    omega

set_option maxHeartbeats 4000000 in
set_option maxRecDepth 100000 in
theorem decode_any (z N : Nat) (ds : List Nat) (w : World) (hm : z + ds.length ≤ 10000) (hR : Rep 58 ds 0 N) :
    Calls Try.prog 13 #[.string (mkS (txt z ds))] w fun e w' => ∃ (T n cp : Nat) (num : List Nat), e = .returned (.tuple #[.slice (some ⟨T, 0, none⟩) n cp, .bool true]) ∧
      w'.ownsRow w.heap.size 5 1 (.slice (some ⟨T, 0, none⟩) n cp) n (B8 (List.replicate z 0 ++ num.reverse)) ∧ Rep 256 num 0 N ∧ Below w.heap.size w w' := by
  obtain ⟨i0, hi, hz0, hz1, hz2⟩ := info_parts Try.info5
  obtain ⟨S, hS⟩ : ∃ S, mkS (txt z ds) = S := ⟨_, rfl⟩
  obtain ⟨l, hl⟩ : ∃ l, ds.length = l := ⟨_, rfl⟩
  have hsz : S.size = z + l := by rw [← hS, size_mkS, length_txt, hl]
  have HA : Hid (∀ k (h : k < S.size), k < z → (S[k]).toNat = 49) := by
    intro k h hk
    subst hS
    rw [mkS_at _ _ h (by rw [txt_lead z ds k hk]; omega), txt_lead z ds k hk]
  have HB : Hid (∀ k (h : z + k < S.size), k < l → (S[z + k]).toNat = al (ds.reverse.getD k 0) ∧ ds.reverse.getD k 0 < 58) := by
    intro k h hk
    subst hS
    have hd : ds.reverse.getD k 0 < 58 := getD_lt (fun d hd => hR.lt d (by simpa using hd)) k (by simpa [hl] using hk)
    rw [mkS_at _ _ h (by rw [txt_digit z ds k (by omega)]; exact (al_lt _ hd).1), txt_digit z ds k (by omega)]
    exact ⟨rfl, hd⟩
  have HT : Hid (0 < l → ds.reverse.getD 0 0 ≠ 0) := fun h => top_ne hR (by omega)
  have HR : Hid (Rep 58 ds 0 N) := hR
  have HL : Hid (ds.length = l) := hl
  rw [hS]
  have hs1 : S.size ≤ z + l := by omega
  have hs2 : z + l ≤ S.size := by omega
  rw [hl] at hm
  clear hS hsz hR hl
  have hand := i64_and255
  go_enter Try.func13, Try.ntmps13
  go_upto_block 0 with fail
  go_cut [4] from 12 to 23 (fun s4 wx => w = wx ∧ s4 = .int .i64 z)
  case first =>
    go_wp2_with fail
    go_loopg [4] z (fun g s4 wx => w = wx ∧ ∃ k : Nat, k ≤ z ∧ g = z - k ∧ s4 = .int .i64 k)
    case atStart => exact ⟨rfl, 0, Nat.zero_le _, rfl, rfl⟩
    case round =>
      obtain ⟨rfl, k, hk, rfl, rfl⟩ := hrel
      by_cases hkz : k < z
      · have hks : k < S.size := by omega
        obtain ⟨x, hx⟩ : ∃ x : UInt8, S[k] = x := ⟨_, rfl⟩
        have hv : (x.toNat : Int) = 49 := by have := HA.out k hks hkz; rw [hx] at this; omega
        go_wp2
        go_roundg (z - (k + 1))
        case measure => omega
        case rel => exact ⟨rfl, k + 1, by omega, rfl, by go_num⟩
      · obtain rfl : k = z := by omega
        by_cases hl0 : 0 < l
        · have hks : k < S.size := by omega
          obtain ⟨x, hx⟩ : ∃ x : UInt8, S[k] = x := ⟨_, rfl⟩
          have hv : ((x.toNat : Int) == 49) = false := by
            have h := HB.out 0 (by omega) hl0
            simp only [Nat.add_zero] at h
            rw [hx] at h
            have h2 : x.toNat ≠ 49 := fun h3 => HT.out hl0 ((al_lt _ h.2).2 (h.1.symm.trans h3))
            rw [beq_eq_false_iff_ne]; omega
          go_wp2
          go_meet
          exact ⟨rfl, rfl⟩
        · go_wp2
          go_meet
          exact ⟨rfl, rfl⟩
  case rest =>
    obtain ⟨rfl, rfl⟩ := hcut
    go_wp2_with (at_make; refine wpList_make_part _ rfl _ _ 22 rfl w.heap.size 5 i0 (.int .u8 0) Try.underlying22 hi hz0 hz1 rfl _ _ _ _ 0 (z + l) rfl rfl (by omega) (by omega) (Nat.zero_le _) ?b2 ?b3 (Nat.le_refl _) ?_)
    case b2 => rw [hz2]; omega
    case b3 => unfold maxLen; omega
    intro w0 hown0 hgrow0
    have hnx0 : Below w.heap.size w w0 := (Below.refl _ _).grown hgrow0 (Nat.le_refl _) (fun k h => by cases h)
    clear hgrow0
    go_upto_block 2 with fail
    go_cut [5] from 28 to 72 (fun s5 wx => ∃ (num : List Nat) (n : Nat), s5 = .slice (some ⟨w.heap.size, 0, none⟩) n (z + l) ∧
        wx.ownsRow w.heap.size 5 1 (.slice (some ⟨w.heap.size, 0, none⟩) n (z + l)) n (B8 num) ∧ Hid (Rep 256 num 0 N) ∧ Below w.heap.size w wx)
    case first =>
      go_wp2_with fail
      go_loopg [5, 6] l (fun g s5 s6 wx => ∃ (k n : Nat) (num : List Nat), k ≤ l ∧ g = l - k ∧ s6 = .int .i64 ((z : Int) + (k : Int)) ∧ s5 = .slice (some ⟨w.heap.size, 0, none⟩) n (z + l) ∧
        wx.ownsRow w.heap.size 5 1 (.slice (some ⟨w.heap.size, 0, none⟩) n (z + l)) n (B8 num) ∧ Hid (Rep 256 num 0 (valBE 58 (ds.reverse.take k))) ∧ Below w.heap.size w wx)
      case atStart => exact ⟨0, 0, [], Nat.zero_le _, rfl, by go_num, rfl, hown0, Rep.nil 256 0, hnx0⟩
      case round =>
        obtain ⟨k, n, num, hk, rfl, rfl, rfl, hown, HRn, hnx⟩ := hrel
        clear hown0 hnx0
        by_cases hlt : k < l
        · have hks : z + k < S.size := by omega
          obtain ⟨d, hd⟩ : ∃ d, ds.reverse.getD k 0 = d := ⟨_, rfl⟩
          have hb := HB.out k hks hlt
          rw [hd] at hb
          obtain ⟨x, hx⟩ : ∃ x : UInt8, S[z + k] = x := ⟨_, rfl⟩
          rw [hx] at hb
          have hd58 : d < 58 := hb.2
          have hv : x.toNat = al d := hb.1
          have HD : Hid (ds.reverse.getD k 0 = d) := hd
          clear hd hb
          go_upto_block 4 with (go_at_call 20; refine (val_any d _ hd58).mono ?_; rintro e w' ⟨rfl, rfl⟩)
          clear hx hv
          obtain ⟨wo, rfl⟩ : ∃ wo : World, wo = wr := ⟨_, rfl⟩
          go_cut [8] from 41 to 62 (fun s8 wx => ∃ (c : Nat) (cur : List Nat), s8 = .int .i64 c ∧ c ≤ 57 ∧
            wx.ownsRow w.heap.size 5 1 (.slice (some ⟨w.heap.size, 0, none⟩) n (z + l)) n (B8 cur) ∧ Hid (Rep 256 cur c (d + 58 * valBE 58 (ds.reverse.take k))) ∧ Below w.heap.size w wx)
          case first =>
            go_wp2_with fail
            go_loopg [8, 9] n (fun g s8 s9 wx => ∃ (i c : Nat) (cur : List Nat), i ≤ n ∧ g = n - i ∧ s9 = .int .i64 i ∧ s8 = .int .i64 c ∧ c ≤ 57 ∧
              wx.ownsRow w.heap.size 5 1 (.slice (some ⟨w.heap.size, 0, none⟩) n (z + l)) n (B8 cur) ∧ Hid (Mid 256 58 num cur i c d) ∧ Below w.heap.size w wx)
            case atStart => exact ⟨0, d, num, Nat.zero_le _, rfl, rfl, rfl, by omega, hown, Mid.start 256 58 num d, hnx⟩
            case round =>
              obtain ⟨i, c, cur, hin, rfl, rfl, rfl, hc57, howni, HM, hni⟩ := hrel
              have hlen := own_len hown
              have hcapn := own_cap hown
              clear hown
              by_cases hil : i < n
              · obtain ⟨y, hy⟩ : ∃ y, num.getD i 0 = y := ⟨_, rfl⟩
                have hy256 : y < 256 := by rw [← hy]; exact getD_lt HRn.out.lt _ (by omega)
                have hcx := own_cell howni i hil
                rw [HM.out.same, hy] at hcx
                have hfz := howni.frozenAt i
                have HO : Hid (_ ∧ _) := own_store howni i ((c + y * 58) % 256) (V := ((c : Int) + (y : Int) * 58) % 256) (by omega)
                have HM2 : Hid (Mid 256 58 num (cur.set i ((c + y * 58) % 256)) (i + 1) ((c + y * 58) / 256) d) := by
                  have := HM.out.step (by omega) (show i < num.length by omega)
                  rwa [hy] at this
                clear hy
                go_wp2
                go_roundg (n - (i + 1))
                case measure => omega
                case rel => exact ⟨i + 1, (c + y * 58) / 256, cur.set i ((c + y * 58) % 256), by omega, rfl, by go_num, by go_num, by omega, HO.out.1, HM2, hni.grown HO.out.2 hni.size (fun j hj => by cases hj; exact Nat.le_refl _)⟩
              · go_wp2
                go_meet
                refine ⟨c, cur, rfl, hc57, howni, ?_, hni⟩
                obtain rfl : i = num.length := by omega
                exact HM.out.done (by omega) HRn.out
          case rest =>
            obtain ⟨c, cur, rfl, hc57, howni, HRc, hni⟩ := hcut
            have hT : d + 58 * valBE 58 (ds.reverse.take k) = valBE 58 (ds.reverse.take (k + 1)) := by
              rw [Plain.valBE_take 58 ds.reverse k (by rw [List.length_reverse, HL.out]; exact hlt), HD.out]
            have hTlt : valBE 58 (ds.reverse.take (k + 1)) < 58 ^ (k + 1) := by
              have h := Plain.valBE_lt 58 (by omega) (ds.reverse.take (k + 1)) (fun y hy => HR.out.lt y (by simpa using List.mem_of_mem_take hy))
              rwa [List.length_take, List.length_reverse, HL.out, Nat.min_eq_left (by omega)] at h
            have HRc' : Hid (Rep 256 cur c (valBE 58 (ds.reverse.take (k + 1)))) := by rw [← hT]; exact HRc
            have HTl : Hid (valBE 58 (ds.reverse.take (k + 1)) < 58 ^ (k + 1)) := hTlt
            clear hT hTlt HRc hown
            go_wp2_with fail
            go_loopg [5, 8] c (fun g s5 s8 wx => ∃ (n' c' : Nat) (cur' : List Nat), c' = g ∧ c' ≤ 57 ∧ s8 = .int .i64 c' ∧ s5 = .slice (some ⟨w.heap.size, 0, none⟩) n' (z + l) ∧
              wx.ownsRow w.heap.size 5 1 (.slice (some ⟨w.heap.size, 0, none⟩) n' (z + l)) n' (B8 cur') ∧ Hid (Rep 256 cur' c' (valBE 58 (ds.reverse.take (k + 1)))) ∧ Below w.heap.size w wx)
            case atStart => exact ⟨n, c, cur, rfl, hc57, rfl, rfl, howni, HRc', hni⟩
            case round =>
              obtain ⟨n', c', cur', rfl, hc', rfl, rfl, hown', HR', hn'⟩ := hrel
              clear howni hni HRc'
              by_cases hc0 : 0 < c'
              · have HP : Hid (Rep 256 (cur' ++ [c' % 256]) (c' / 256) (valBE 58 (ds.reverse.take (k + 1)))) := HR'.out.push (by omega) hc0
                have hroom : n' + 1 ≤ z + l := by
                  have h1 := HP.out.len256 HTl.out
                  have h2 := own_len hown'
                  rw [List.length_append, List.length_singleton] at h1
                  omega
                go_wp2_with (at_builtin; refine wpList_append_fits _ rfl _ _ 22 rfl w.heap.size 5 i0 1 Try.underlying22 hi hz1 w.heap.size n' (z + l) _ rfl (hown'.alloc _) ⟨wr.heap.size, 0, none⟩ 1 1 [.int .u8 ((c' : Int) % 256)] rfl rfl (new_cell _ _ _) ?c2 hroom ?_)
                case c2 => intro u hu; simp at hu; subst hu; rfl
                intro w1 hown1 hgrow1
                have HO : Hid (_) := own_snoc hown1 (c' % 256) (by omega)
                have HBl : Hid (Below w.heap.size w w1) := (hn'.alloc hn'.size _).grown hgrow1 (by simp; have := hn'.size; omega) (fun j hj => by cases hj; exact Nat.le_refl _)
                clear hown1 hgrow1 hown'
                go_wp2
                go_roundg (c' / 256)
                case measure => omega
                case rel => exact ⟨n' + 1, c' / 256, cur' ++ [c' % 256], rfl, by omega, by go_num, rfl, HO.out, HP, HBl.out⟩
              · obtain rfl : c' = 0 := by omega
                go_wp2
                go_roundg (l - (k + 1))
                case measure => omega
                case rel => exact ⟨k + 1, n', cur', by omega, rfl, by go_num, rfl, hown', HR', hn'⟩
        · go_wp2
          go_meet
          refine ⟨num, n, rfl, hown, ?_, hnx⟩
          have h := HRn.out
          have hN : val 58 ds = N := by simpa using HR.out.eq
          rw [List.take_of_length_le (by rw [List.length_reverse, HL.out]; omega)] at h
          rw [← hN]
          exact (by simpa [valBE] using h : Rep 256 num 0 (val 58 ds))
    case rest =>
      obtain ⟨num, n, rfl, hown, HRn, hnx⟩ := hcut
      clear hown0 hnx0
      have hcapn := own_cap hown
      go_wp2_with (at_make; refine wpList_make_part _ rfl _ _ 22 rfl w.heap.size 5 i0 (.int .u8 0) Try.underlying22 hi hz0 hz1 rfl _ _ _ _ z (z + n) rfl rfl (by omega) (by omega) (by omega) ?b2 ?b3 hnx.size ?_)
      case b2 => rw [hz2]; omega
      case b3 => unfold maxLen; omega
      intro w1 hown1 hgrow1
      have hg0 : w.heap.size < wc.heap.size := own_lt hown
      have hownD := hown.kept hgrow1 (.inr (by simp [Value.ownBlock]))
      have hnx1 : Below w.heap.size w w1 := hnx.grown hgrow1 hnx.size (fun j hj => by cases hj)
      rw [show (Value.int .u8 0) = .int .u8 ((0 : Nat) : Int) from rfl, B8_replicate] at hown1
      clear hown hgrow1 hnx
      obtain ⟨T, hTw⟩ : ∃ T, wc.heap.size = T := ⟨_, rfl⟩
      rw [hTw] at hown1 hg0 ⊢
      clear hTw
      go_wp2_with fail
      go_loopg [10, 11] n (fun g s10 s11 wx => ∃ j : Nat, j ≤ n ∧ j = g ∧ s11 = .int .i64 ((j : Int) - 1) ∧ s10 = .slice (some ⟨T, 0, none⟩) (z + (n - j)) (z + n) ∧
        wx.ownsRow w.heap.size 5 1 (.slice (some ⟨T, 0, none⟩) (z + (n - j)) (z + n)) (z + (n - j)) (B8 (List.replicate z 0 ++ (num.drop j).reverse)) ∧
        wx.ownsRow w.heap.size 5 1 (.slice (some ⟨w.heap.size, 0, none⟩) n (z + l)) n (B8 num) ∧ Below w.heap.size w wx)
      case atStart =>
        refine ⟨n, Nat.le_refl _, rfl, rfl, by rw [Nat.sub_self, Nat.add_zero], ?_, hownD, hnx1⟩
        rw [Nat.sub_self, Nat.add_zero, List.drop_eq_nil_of_le (by rw [own_len hownD]; exact Nat.le_refl _), List.reverse_nil, List.append_nil]
        exact hown1
      case round =>
        obtain ⟨j, hj, rfl, rfl, rfl, hownT1, hownD1, hn1⟩ := hrel
        clear hown1 hownD hnx1
        by_cases hj0 : 0 < j
        · obtain ⟨t, rfl⟩ : ∃ t, j = t + 1 := ⟨j - 1, by omega⟩
          rw [show (((t + 1 : Nat) : Int) - 1) = (t : Int) by omega]
          have hlD := own_len hownD1
          have hcx := own_cell hownD1 t (by omega)
          obtain ⟨x, hx⟩ : ∃ x, num.getD t 0 = x := ⟨_, rfl⟩
          rw [hx] at hcx
          have HX : Hid (num.getD t 0 = x) := hx
          clear hx
          go_wp2_with (at_builtin; refine wpList_append_fits _ rfl _ _ 22 rfl w.heap.size 5 i0 1 Try.underlying22 hi hz1 T (z + (n - (t + 1))) (z + n) _ rfl (hownT1.alloc _) ⟨wr.heap.size, 0, none⟩ 1 1 [.int .u8 (x : Int)] rfl rfl (new_cell _ _ _) ?c2 (by omega) ?_)
          case c2 => intro u hu; simp at hu; subst hu; rfl
          intro w2 hown2 hgrow2
          have HO : Hid (_) := own_snoc hown2 x rfl
          have HD : Hid (_) := (hownD1.alloc (.cells #[.int .u8 (x : Int)] 5)).kept hgrow2 (.inr (by simp [Value.ownBlock]; omega))
          have HBl : Hid (Below w.heap.size w w2) := (hn1.alloc hn1.size _).grown hgrow2 (by simp; have := hn1.size; omega) (fun j hj => by cases hj; omega)
          clear hown2 hgrow2 hownT1 hownD1
          go_wp2
          go_roundg t
          case measure => omega
          case rel =>
            refine ⟨t, by omega, rfl, by go_num, by rw [show z + (n - (t + 1)) + 1 = z + (n - t) by omega], ?_, HD.out, HBl.out⟩
            have h := HO.out
            have e : List.replicate z 0 ++ (num.drop (t + 1)).reverse ++ [x] = List.replicate z 0 ++ (num.drop t).reverse := by
              rw [Plain.drop_cons num t (by omega), HX.out]; simp
            rw [e] at h
            rwa [show z + (n - (t + 1)) + 1 = z + (n - t) by omega] at h
        · obtain rfl : j = 0 := by omega
          rw [Nat.sub_zero] at hownT1 ⊢
          go_wp2
          go_ret2
          exact ⟨T, z + n, z + n, num, rfl, hownT1, HRn.out, hn1⟩
end Go.Proofs.Qxb6605995a
