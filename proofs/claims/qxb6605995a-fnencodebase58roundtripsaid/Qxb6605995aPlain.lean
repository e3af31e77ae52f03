namespace Go.Proofs.Qxb6605995a.Plain

/-- The value of a list of digits, the least significant first. -/
def val (b : Nat) : List Nat → Nat
  | [] => 0
  | d :: ds => d + b * val b ds

theorem val_append (b : Nat) : ∀ xs ys : List Nat, val b (xs ++ ys) = val b xs + b ^ xs.length * val b ys
  | [], ys => by simp [val]
  | x :: xs, ys => by
    simp only [List.cons_append, val, val_append b xs ys, List.length_cons, Nat.pow_succ, Nat.mul_add]
    rw [Nat.mul_comm (b ^ xs.length) b, Nat.mul_assoc]; omega

theorem val_snoc (b : Nat) (xs : List Nat) (d : Nat) : val b (xs ++ [d]) = val b xs + b ^ xs.length * d := by
  rw [val_append]; simp [val]

theorem val_lt (b : Nat) (hb : 0 < b) : ∀ xs : List Nat, (∀ d ∈ xs, d < b) → val b xs < b ^ xs.length
  | [], _ => by simp [val]
  | x :: xs, h => by
    have h1 := val_lt b hb xs (fun d hd => h d (List.mem_cons_of_mem _ hd))
    have h2 : x < b := h x (by simp)
    simp only [val, List.length_cons, Nat.pow_succ]
    have h3 : b * (val b xs + 1) ≤ b * b ^ xs.length := Nat.mul_le_mul_left b h1
    rw [Nat.mul_comm (b ^ xs.length) b]
    rw [Nat.mul_add] at h3; omega

/-- Two lists of digits of one length and one value are one. -/
theorem val_inj (b : Nat) (hb : 0 < b) : ∀ xs ys : List Nat, xs.length = ys.length → (∀ d ∈ xs, d < b) → (∀ d ∈ ys, d < b) → val b xs = val b ys → xs = ys
  | [], [], _, _, _, _ => rfl
  | [], _ :: _, h, _, _, _ => by simp at h
  | _ :: _, [], h, _, _, _ => by simp at h
  | x :: xs, y :: ys, hl, hx, hy, hv => by
    have a : x < b := hx x (by simp)
    have c : y < b := hy y (by simp)
    simp only [val] at hv
    have hm : (x + b * val b xs) % b = (y + b * val b ys) % b := by rw [hv]
    rw [Nat.add_mul_mod_self_left, Nat.add_mul_mod_self_left, Nat.mod_eq_of_lt a, Nat.mod_eq_of_lt c] at hm
    subst hm
    have hv2 : val b xs = val b ys := Nat.eq_of_mul_eq_mul_left hb (by omega)
    rw [val_inj b hb xs ys (by simpa using hl) (fun d hd => hx d (List.mem_cons_of_mem _ hd)) (fun d hd => hy d (List.mem_cons_of_mem _ hd)) hv2]

/-- 'ds' are digits to the base b, with 'c' still to be written above them: together they write N; and no digit stands ahead of N's own. -/
structure Rep (b : Nat) (ds : List Nat) (c N : Nat) : Prop where
  eq : val b ds + b ^ ds.length * c = N
  lt : ∀ d ∈ ds, d < b
  top : ds = [] ∨ b ^ (ds.length - 1) ≤ N

theorem Rep.nil (b c : Nat) : Rep b [] c c := ⟨by simp [val], by simp, .inl rfl⟩

/-- One more digit. -/
theorem Rep.push {b : Nat} {ds : List Nat} {c N : Nat} (hb : 0 < b) (h : Rep b ds c N) (hc : 0 < c) : Rep b (ds ++ [c % b]) (c / b) N := by
  refine ⟨?_, ?_, .inr ?_⟩
  · rw [val_snoc, ← h.eq]
    simp only [List.length_append, List.length_cons, List.length_nil, Nat.zero_add, Nat.pow_succ]
    have e : c = c % b + b * (c / b) := (Nat.mod_add_div c b).symm
    have e2 : b ^ ds.length * c = b ^ ds.length * (c % b) + b ^ ds.length * (b * (c / b)) := by rw [← Nat.mul_add, ← e]
    rw [e2, Nat.mul_assoc]; omega
  · intro d hd
    rcases List.mem_append.1 hd with hd | hd
    · exact h.lt d hd
    · simp at hd; subst hd; exact Nat.mod_lt _ hb
  · simp only [List.length_append, List.length_cons, List.length_nil, Nat.zero_add, Nat.add_sub_cancel]
    rw [← h.eq]
    have : b ^ ds.length * 1 ≤ b ^ ds.length * c := Nat.mul_le_mul_left _ hc
    omega

/-- Two such lists with nothing left to be written are one. -/
theorem Rep.uniq {b : Nat} {xs ys : List Nat} {N : Nat} (hb : 1 < b) (h : Rep b xs 0 N) (k : Rep b ys 0 N) : xs = ys := by
  have hx : val b xs = N := by simpa using h.eq
  have hy : val b ys = N := by simpa using k.eq
  have lx := val_lt b (by omega) xs h.lt
  have ly := val_lt b (by omega) ys k.lt
  refine val_inj b (by omega) xs ys ?_ h.lt k.lt (by rw [hx, hy])
  have key : ∀ (us vs : List Nat), (us = [] ∨ b ^ (us.length - 1) ≤ N) → N < b ^ vs.length → us.length ≤ vs.length := by
    intro us vs ht hl
    rcases ht with rfl | ht
    · simp
    · have : us.length - 1 < vs.length := (Nat.pow_lt_pow_iff_right hb).1 (Nat.lt_of_le_of_lt ht hl)
      omega
  have h1 := key xs ys h.top (by omega)
  have h2 := key ys xs k.top (by omega)
  omega

/-- How many digits there are: base 58, of a number of k bytes. -/
theorem big : 256 ^ 100 ≤ 58 ^ 137 := by decide
theorem len_le {m k N : Nat} (h : 58 ^ m ≤ N) (hN : N < 256 ^ k) : m ≤ 137 * k / 100 := by
  have h0 : 58 ^ m < 256 ^ k := Nat.lt_of_le_of_lt h hN
  refine Nat.le_of_not_lt fun hlt => ?_
  have h1 : 137 * k ≤ 100 * m := by omega
  have h2 : (58 ^ m) ^ 100 < (256 ^ k) ^ 100 := Nat.pow_lt_pow_left h0 (by omega)
  have h3 : (256 ^ k) ^ 100 ≤ (58 ^ m) ^ 100 := by
    rw [← Nat.pow_mul, ← Nat.pow_mul, Nat.mul_comm k 100, Nat.pow_mul, Nat.mul_comm m 100]
    refine Nat.le_trans (Nat.pow_le_pow_left big k) ?_
    rw [← Nat.pow_mul]
    exact Nat.pow_le_pow_right (by omega) h1
  omega
theorem Rep.len {ds : List Nat} {c N k : Nat} (h : Rep 58 ds c N) (hN : N < 256 ^ k) : ds.length ≤ 137 * k / 100 + 1 := by
  rcases h.top with rfl | ht
  · simp
  · have := len_le ht hN; omega
/-- Base 256, of a number of k digits to the base 58. -/
theorem Rep.len256 {ds : List Nat} {c N k : Nat} (h : Rep 256 ds c N) (hN : N < 58 ^ k) : ds.length ≤ k := by
  rcases h.top with rfl | ht
  · simp
  · have h0 : 58 ^ (ds.length - 1) ≤ 256 ^ (ds.length - 1) := Nat.pow_le_pow_left (by omega) _
    have : ds.length - 1 < k := (Nat.pow_lt_pow_iff_right (a := 58) (by omega)).1 (by omega)
    omega

/-! ### The inner round: 'all digits times m, and a carry' -/
/-- Where the inner loop stands at digit i: the first i digits are new, the rest old. -/
structure Mid (b m : Nat) (old cur : List Nat) (i c v : Nat) : Prop where
  len : cur.length = old.length
  rest : cur.drop i = old.drop i
  eq : val b (cur.take i) + b ^ i * (c + m * val b (old.drop i)) = v + m * val b old
  lt : ∀ d ∈ cur.take i, d < b

theorem Mid.start (b m : Nat) (old : List Nat) (v : Nat) : Mid b m old old 0 v v := ⟨rfl, rfl, by simp [val], by simp⟩

theorem drop_cons (l : List Nat) (i : Nat) (h : i < l.length) : l.drop i = l.getD i 0 :: l.drop (i + 1) := by
  rw [List.drop_eq_getElem_cons h]; simp [List.getElem?_eq_getElem h]
theorem take_snoc (l : List Nat) (i : Nat) (h : i < l.length) : l.take (i + 1) = l.take i ++ [l.getD i 0] := by
  rw [List.take_succ_eq_append_getElem h]; simp [List.getElem?_eq_getElem h]

theorem Mid.same {b m : Nat} {old cur : List Nat} {i c v : Nat} (h : Mid b m old cur i c v) : cur.getD i 0 = old.getD i 0 := by
  have h1 := congrArg (fun l => l.getD 0 0) h.rest
  simpa [List.getElem?_drop] using h1

theorem Mid.step {b m : Nat} {old cur : List Nat} {i c v : Nat} (hb : 0 < b) (h : Mid b m old cur i c v) (hi : i < old.length) :
    Mid b m old (cur.set i ((c + old.getD i 0 * m) % b)) (i + 1) ((c + old.getD i 0 * m) / b) v := by
  have hil : i < cur.length := by rw [h.len]; exact hi
  have e1 : (cur.set i ((c + old.getD i 0 * m) % b)).take (i + 1) = cur.take i ++ [(c + old.getD i 0 * m) % b] := by
    rw [take_snoc _ _ (by simpa using hil)]
    congr 1
    · rw [List.take_set_of_le (Nat.le_refl i)]
    · simp [hil]
  refine ⟨by simp [h.len], ?_, ?_, ?_⟩
  · rw [List.drop_set_of_lt (by omega)]
    have := congrArg (fun l => l.drop 1) h.rest
    simpa [List.drop_drop] using this
  · have hl : (cur.take i).length = i := by simp; omega
    rw [e1, val_snoc, hl, ← h.eq, drop_cons old i hi]
    simp only [val, Nat.pow_succ]
    generalize old.getD i 0 = d
    generalize val b (old.drop (i + 1)) = r
    generalize hx : c + d * m = x
    have e : x = x % b + b * (x / b) := (Nat.mod_add_div x b).symm
    have e2 : c + m * (d + b * r) = x % b + b * (x / b + m * r) := by
      have : m * (d + b * r) = d * m + b * (m * r) := by rw [Nat.mul_add, Nat.mul_comm m d, Nat.mul_left_comm]
      rw [this, Nat.mul_add]; omega
    rw [e2, Nat.mul_add (b ^ i) (x % b) (b * (x / b + m * r)), ← Nat.mul_assoc (b ^ i) b, Nat.add_assoc]
  · intro d hd
    rw [e1] at hd
    rcases List.mem_append.1 hd with hd | hd
    · exact h.lt d hd
    · simp at hd; subst hd; exact Nat.mod_lt _ hb

/-- At the inner loop's end. -/
theorem Mid.done {b m : Nat} {old cur : List Nat} {c v N : Nat} (hm : 1 ≤ m) (h : Mid b m old cur old.length c v) (k : Rep b old 0 N) : Rep b cur c (v + m * N) := by
  have hN : val b old = N := by simpa using k.eq
  have ht : cur.take old.length = cur := List.take_of_length_le (by rw [h.len]; exact Nat.le_refl _)
  refine ⟨?_, ?_, ?_⟩
  · have := h.eq
    rw [ht, hN] at this
    rw [h.len, ← this]; simp [val]
  · have := h.lt; rw [ht] at this; exact this
  · rcases k.top with hk | hk
    · left; apply List.eq_nil_of_length_eq_zero; rw [h.len, hk]; rfl
    · right; rw [h.len]
      have : 1 * N ≤ m * N := Nat.mul_le_mul_right N hm
      omega

/-- The bytes of a text, the most significant first, as a number. -/
def valBE (b : Nat) (l : List Nat) : Nat := val b l.reverse
theorem valBE_nil (b : Nat) : valBE b [] = 0 := rfl
theorem valBE_snoc (b : Nat) (l : List Nat) (d : Nat) : valBE b (l ++ [d]) = d + b * valBE b l := by simp [valBE, val]
theorem valBE_take (b : Nat) (l : List Nat) (i : Nat) (h : i < l.length) : valBE b (l.take (i + 1)) = l.getD i 0 + b * valBE b (l.take i) := by
  rw [take_snoc l i h, valBE_snoc]
theorem valBE_lt (b : Nat) (hb : 0 < b) (l : List Nat) (h : ∀ d ∈ l, d < b) : valBE b l < b ^ l.length := by
  have := val_lt b hb l.reverse (fun d hd => h d (by simpa using hd))
  simpa [valBE] using this
theorem valBE_cons (b : Nat) (l : List Nat) (d : Nat) : valBE b (d :: l) = valBE b l + b ^ l.length * d := by
  simp [valBE, val_append, val]
/-- Leading noughts don't count. -/
theorem valBE_zeros (b : Nat) : ∀ (l : List Nat) (s : Nat), (∀ j, j < s → l.getD j 0 = 0) → valBE b l = valBE b (l.drop s)
  | [], s, _ => by simp
  | x :: l, 0, _ => by simp
  | x :: l, s + 1, h => by
    have h0 : x = 0 := by simpa using h 0 (by omega)
    rw [valBE_cons, h0]
    simp only [Nat.mul_zero, Nat.add_zero, List.drop_succ_cons]
    exact valBE_zeros b l s (fun j hj => by simpa using h (j + 1) (by omega))
/-- A number whose first digit is no nought is written by its digits. -/
theorem rep_of_top (b : Nat) (l : List Nat) (h : ∀ d ∈ l, d < b) (ht : l = [] ∨ l.getD 0 0 ≠ 0) : Rep b l.reverse 0 (valBE b l) := by
  refine ⟨by simp [valBE], fun d hd => h d (by simpa using hd), ?_⟩
  rcases l with _ | ⟨x, l⟩
  · left; rfl
  · right
    rw [valBE_cons]
    have hx : x ≠ 0 := by simpa using ht
    have : b ^ l.length * 1 ≤ b ^ l.length * x := Nat.mul_le_mul_left _ (by omega)
    simp; omega

/-! ### Long division -/
structure Div (old cur : List Nat) (i r : Nat) : Prop where
  len : cur.length = old.length
  rest : cur.drop i = old.drop i
  eq : valBE 256 (old.take i) = 58 * valBE 256 (cur.take i) + r
  lt : ∀ d ∈ cur, d < 256
  small : r < 58
theorem Div.same {old cur : List Nat} {i r : Nat} (h : Div old cur i r) : cur.getD i 0 = old.getD i 0 := by
  have h1 := congrArg (fun l => l.getD 0 0) h.rest
  simpa [List.getElem?_drop] using h1
theorem Div.step {old cur : List Nat} {i r : Nat} (h : Div old cur i r) (hi : i < old.length) (ho : ∀ d ∈ old, d < 256) :
    Div old (cur.set i ((r * 256 + old.getD i 0) / 58)) (i + 1) ((r * 256 + old.getD i 0) % 58) := by
  have hil : i < cur.length := by rw [h.len]; exact hi
  have hd : old.getD i 0 < 256 := by
    rw [List.getD_eq_getElem?_getD, List.getElem?_eq_getElem hi]; exact ho _ (by simp)
  have hr := h.small
  have e1 : (cur.set i ((r * 256 + old.getD i 0) / 58)).take (i + 1) = cur.take i ++ [(r * 256 + old.getD i 0) / 58] := by
    rw [take_snoc _ _ (by simpa using hil)]
    congr 1
    · rw [List.take_set_of_le (Nat.le_refl i)]
    · simp [hil]
  refine ⟨by simp [h.len], ?_, ?_, ?_, Nat.mod_lt _ (by omega)⟩
  · rw [List.drop_set_of_lt (by omega)]
    have := congrArg (fun l => l.drop 1) h.rest
    simpa [List.drop_drop] using this
  · rw [e1, valBE_snoc, valBE_take 256 old i hi, h.eq]; omega
  · intro d hdm
    rcases List.mem_or_eq_of_mem_set hdm with hdm | rfl
    · exact h.lt d hdm
    · omega
theorem Div.start {old : List Nat} {s : Nat} (hz : ∀ j, j < s → old.getD j 0 = 0) (ho : ∀ d ∈ old, d < 256) : Div old old s 0 := by
  have e : valBE 256 (old.take s) = 0 := by
    rw [valBE_zeros 256 (old.take s) s (fun j hj => by
      have := hz j hj
      simp only [List.getD_eq_getElem?_getD, List.getElem?_take, hj, if_true] at this ⊢; exact this)]
    rw [List.drop_eq_nil_of_le (by simp; omega)]; rfl
  exact ⟨rfl, rfl, by rw [e], ho, by omega⟩
theorem Div.done {old cur : List Nat} {r : Nat} (h : Div old cur old.length r) : valBE 256 old = 58 * valBE 256 cur + r := by
  have := h.eq
  rwa [List.take_of_length_le (Nat.le_refl _), List.take_of_length_le (by rw [h.len]; exact Nat.le_refl _)] at this
/-- A pass of the long division is one digit more. -/
theorem Rep.divided {ds : List Nat} {M M' r N : Nat} (h : Rep 58 ds M N) (e : M = 58 * M' + r) (hr : r < 58) (hM : 0 < M) : Rep 58 (ds ++ [r]) M' N := by
  have h1 := h.push (by omega) hM
  have a : M % 58 = r := by omega
  have b : M / 58 = M' := by omega
  rwa [a, b] at h1
theorem pos_of_at {l : List Nat} {s : Nat} (hs : s < l.length) (h : l.getD s 0 ≠ 0) : 0 < valBE 256 l := by
  refine Nat.pos_of_ne_zero fun hz => h ?_
  have key : ∀ (l : List Nat), valBE 256 l = 0 → ∀ d ∈ l, d = 0 := by
    intro l
    induction l with
    | nil => simp
    | cons x l ih =>
      intro h0 d hd
      rw [valBE_cons] at h0
      have h2 : 0 < 256 ^ l.length := Nat.pow_pos (by omega)
      have hx : x = 0 := by
        rcases Nat.eq_zero_or_pos x with hx | hx
        · exact hx
        · have := Nat.mul_le_mul_left (256 ^ l.length) hx; omega
      rcases List.mem_cons.1 hd with rfl | hd
      · exact hx
      · exact ih (by omega) d hd
  rw [List.getD_eq_getElem?_getD, List.getElem?_eq_getElem hs]
  exact key l hz _ (by simp)

end Go.Proofs.Qxb6605995a.Plain
