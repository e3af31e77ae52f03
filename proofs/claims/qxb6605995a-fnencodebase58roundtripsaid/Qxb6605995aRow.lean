import Derived.Test.Qxb6605995aRows
import Derived.Test.Qxb6605995aPlain
import Derived.WalkKit
import Derived.WalkLawsBesides
import Derived.Laws.BytesString
import Derived.Lib.SliceRun
import Derived.Deep.CutBlock
import Derived.Deep.DeepCutAuto
import Derived.Deep.LoopGhost
import Derived.Deep.Light
namespace Go.Proofs.Qxb6605995a
open Go.RowKit

theorem Try.info5 : (Try.prog.info? 5).map (fun i => (i.zero, i.size, i.bytes)) = some (some (.int .u8 0), 1, 1) := by kernel_rfl

/-- A row of bytes, as cells. -/
def B8 (l : List Nat) : List Value := l.map (fun n : Nat => Value.int .u8 (n : Int))
theorem B8_length (l : List Nat) : (B8 l).length = l.length := by simp [B8]
theorem B8_append (l m : List Nat) : B8 (l ++ m) = B8 l ++ B8 m := by simp [B8]
theorem B8_set (l : List Nat) (i v : Nat) : (B8 l).set i (.int .u8 (v : Int)) = B8 (l.set i v) := by simp [B8, List.map_set]
theorem B8_at (l : List Nat) (j : Nat) (hj : j < l.length) : (B8 l)[j]? = some (.int .u8 ((l.getD j 0 : Nat) : Int)) := by
  simp [B8, List.getElem?_eq_getElem hj]
theorem B8_replicate (n v : Nat) : List.replicate n (Value.int .u8 (v : Int)) = B8 (List.replicate n v) := by simp [B8]
theorem B8_one (l : List Nat) : ∀ u ∈ B8 l, u.oneCell' = true := by
  intro u hu
  obtain ⟨_, _, rfl⟩ := List.mem_map.1 hu
  rfl

section
variable {w : World} {base g n cap : Nat} {l : List Nat}
theorem own_len (h : w.ownsRow base 5 1 (.slice (some ⟨g, 0, none⟩) n cap) n (B8 l)) : l.length = n := by
  have := h.1; rw [B8_length] at this; omega
theorem own_cell (h : w.ownsRow base 5 1 (.slice (some ⟨g, 0, none⟩) n cap) n (B8 l)) (j : Nat) (hj : j < n) : w.cell? ⟨g, j, none⟩ = some (.int .u8 ((l.getD j 0 : Nat) : Int)) := by
  rw [h.cellAt j (by omega), B8_at l j (by rw [own_len h]; exact hj)]
theorem own_cap (h : w.ownsRow base 5 1 (.slice (some ⟨g, 0, none⟩) n cap) n (B8 l)) : n ≤ cap := by
  rcases h.2 with ⟨h', _⟩ | ⟨g', cap', cur, h', _, _, hnc, _⟩
  · simp at h'
  · simp only [Value.slice.injEq, Option.some.injEq, Addr.mk.injEq, and_true, true_and] at h'
    omega
theorem own_store (h : w.ownsRow base 5 1 (.slice (some ⟨g, 0, none⟩) n cap) n (B8 l)) (i v : Nat) {V : Int} (hV : V = (v : Int)) :
    (w.setCell ⟨g, i, none⟩ (.int .u8 V)).ownsRow base 5 1 (.slice (some ⟨g, 0, none⟩) n cap) n (B8 (l.set i v)) ∧ w.grownBy (w.setCell ⟨g, i, none⟩ (.int .u8 V)) (some g) := by
  subst hV
  have := h.stored i (.int .u8 (v : Int))
  rwa [B8_set] at this
theorem own_snoc {N : Nat} {V : Int} (h : w.ownsRow base 5 1 (.slice (some ⟨g, 0, none⟩) N cap) N (B8 l ++ [.int .u8 V])) (v : Nat) (hV : V = (v : Int)) :
    w.ownsRow base 5 1 (.slice (some ⟨g, 0, none⟩) N cap) N (B8 (l ++ [v])) := by
  subst hV
  rw [B8_append]; exact h
theorem new_cell (w : World) (V : Value) (t : TypeId) : ∀ j u, [V][j]? = some u → (w.alloc (.cells #[V] t)).cell? ((⟨w.heap.size, 0, none⟩ : Addr).add j) = some u := by
  intro j u hj
  match j, hj with
  | 0, hj => simp at hj; subst hj; simp [Addr.add]
theorem own_lt (h : w.ownsRow base 5 1 (.slice (some ⟨g, 0, none⟩) n cap) n (B8 l)) : g < w.heap.size := (h.lt g rfl).2
end

/-- 'make([]T, n, c)', both VARIABLES, an element being one cell: n zero elements are owned, and there is room for c. -/
theorem wpList_make_part {P : Program} (w : World) {ops : Array Oper} {rest : List Oper} {o : Oper} {a : Act} {Q : Exit → Act → World → Prop}
    (hg : o.guard = none) (l c : Operand) (t : TypeId) (hop : o.op = Op.makeSlice t l c)
    (base : Nat) (e : TypeId) (i : TypeInfo) (z : Value) (h1 : P.underlying t = some (.slice e)) (h2 : P.info? e = some i) (h3 : i.zero = some z) (h4 : i.size = 1) (h5 : z.cells = #[z])
    (kl kc : IntKind) (L C : Int) (n m : Nat) (hl : a.eval l = .int kl L) (hc : a.eval c = .int kc C) (hL : L = (n : Int)) (hC : C = (m : Int)) (hnm : n ≤ m) (b2 : i.bytes * m ≤ 281474976710656) (b3 : m ≤ maxLen) (b4 : base ≤ w.heap.size)
    (hK : ∀ w', w'.ownsRow base e 1 (.slice (some ⟨w.heap.size, 0, none⟩) n m) n (List.replicate n z) → w.grownBy w' none → wpList P ops Q rest (a.put o.dst (.slice (some ⟨w.heap.size, 0, none⟩) n m)) w') :
    wpList P ops Q (o :: rest) a w := by
  refine wpList_plain hg fun K hK' => ?_
  have h63' : (m : Int) ≤ 9223372036854775807 := by
    have h := b3
    simp [maxLen] at h
    omega
  have hb' : (i.bytes : Int) * (m : Int) ≤ 281474976710656 := by
    have h : ((i.bytes * m : Nat) : Int) ≤ 281474976710656 := by omega
    rwa [Int.natCast_mul] at h
  have hr := run_make (P := P) w t e i z h1 h2 h3 kl kc n m (by omega) (by omega) hb' h63'
  simp only [Int.toNat_natCast] at hr
  subst hL
  subst hC
  have hown : (w.alloc (.cells (madeCells z.cells (m * i.size)) e)).ownsRow base e 1 (.slice (some ⟨w.heap.size, 0, none⟩) n m) n (List.replicate n z) := by
    rw [h4, h5, Nat.mul_one]
    refine ⟨by simp, .inr ⟨w.heap.size, m, _, rfl, b4, heap_alloc_new w _, hnm, b3, ?_, ?_⟩⟩
    · rw [size_madeCells, Nat.mul_one]
    · rw [toList_madeCells_one, Nat.mul_one, List.take_replicate, Nat.min_eq_left hnm]
  unfold Oper.wp
  simp [execOp, hop, hl, hc, hr, Result.andThen]
  exact hK' _ _ (hK _ hown (World.grownBy_alloc w _ none))

/-- A row of bytes that lies somewhere: what the callees are told of it. -/
structure Lies (w : World) (b off len : Nat) (A : List Nat) : Prop where
  size : A.length = len
  lt : ∀ d ∈ A, d < 256
  block : b < w.heap.size
  cell : ∀ t, t < len → w.cell? ⟨b, off + t, none⟩ = some (.int .u8 ((A.getD t 0 : Nat) : Int))
theorem Lies.below {w w' : World} {b off len B : Nat} {A : List Nat} (h : Lies w b off len A) (k : Below B w w') (hb : b < B) : Lies w' b off len A :=
  ⟨h.size, h.lt, Nat.lt_of_lt_of_le h.block k.size, fun t ht => (k.cell (p := ⟨b, off + t, none⟩) hb).trans (h.cell t ht)⟩
theorem getD_lt {A : List Nat} {m : Nat} (h : ∀ d ∈ A, d < m) (t : Nat) (ht : t < A.length) : A.getD t 0 < m := by
  rw [List.getD_eq_getElem?_getD, List.getElem?_eq_getElem ht]; exact h _ (by simp)

theorem copy_step {C A : List Nat} {k d : Nat} (h : C.take k = A.take k) (hC : k < C.length) (hA : k < A.length) (hd : A.getD k 0 = d) : (C.set k d).take (k + 1) = A.take (k + 1) := by
  rw [Plain.take_snoc _ _ (by simpa using hC), Plain.take_snoc _ _ hA, List.take_set_of_le (Nat.le_refl k), h, hd]
  congr 1
  simp [hC]

set_option maxHeartbeats 1000000 in
theorem copy_any (b off len cap : Nat) (A : List Nat) (w : World) (hl : len ≤ 4096) (hA : Lies w b off len A) :
    Calls Try.prog 9 #[.slice (some ⟨b, off, none⟩) len cap] w fun e w' => e = .returned (.slice (some ⟨w.heap.size, 0, none⟩) len len) ∧
      w'.ownsRow w.heap.size 5 1 (.slice (some ⟨w.heap.size, 0, none⟩) len len) len (B8 A) ∧ Below w.heap.size w w' := by
  obtain ⟨i0, hi, hz0, hz1, hz2⟩ := info_parts Try.info5
  have hnil := fun wx => Lib.run_eql_slice_nil (P := Try.prog) wx 22 5 (some ⟨b, off, none⟩) len cap 0 0 Try.underlying22
  go_enter Try.func9, Try.ntmps9
  go_wp2_with (at_make; refine wpList_make_part _ rfl _ _ 22 rfl w.heap.size 5 i0 (.int .u8 0) Try.underlying22 hi hz0 hz1 rfl _ _ _ _ len len rfl rfl (by omega) (by omega) (Nat.le_refl _) ?b2 ?b3 (Nat.le_refl _) ?_)
  case b2 => rw [hz2]; omega
  case b3 => unfold maxLen; omega
  intro w0 hown0 hgrow0
  go_wp2
  go_loopw [4] (fun s4 wr => ∃ (k : Nat) (C : List Nat), k ≤ len ∧ s4 = .int .i64 k ∧ wr.ownsRow w.heap.size 5 1 (.slice (some ⟨w.heap.size, 0, none⟩) len len) len (B8 C) ∧ Hid (C.take k = A.take k) ∧ Below w.heap.size w wr)
    (fun s4 _ => len - (intOf s4).toNat)
  case atStart => exact ⟨0, List.replicate len 0, Nat.zero_le _, rfl, by rw [← B8_replicate]; exact hown0, rfl, (Below.refl _ _).grown hgrow0 (Nat.le_refl _) (fun k h => by cases h)⟩
  case round =>
    obtain ⟨k, C, hk, rfl, hown, HC, hnx⟩ := hrel
    by_cases hlt : k < len
    · obtain ⟨d, hd⟩ : ∃ d, A.getD k 0 = d := ⟨_, rfl⟩
      have hd256 : d < 256 := by rw [← hd]; exact getD_lt hA.lt k (by rw [hA.size]; exact hlt)
      have hc := hA.cell k hlt
      rw [hd] at hc
      have hcr : wr.cell? ⟨b, off + k, none⟩ = some (.int .u8 (d : Int)) := (hnx.cell (p := ⟨b, off + k, none⟩) hA.block).trans hc
      have HD : Hid (A.getD k 0 = d) := hd
      obtain ⟨c, hco⟩ : ∃ c : Nat, wr.cell? ⟨w.heap.size, k, none⟩ = some (.int .u8 (c : Int)) := ⟨_, own_cell hown k hlt⟩
      have hfz := hown.frozenAt k
      have HO : Hid ((wr.setCell ⟨w.heap.size, k, none⟩ (.int .u8 (d : Int))).ownsRow w.heap.size 5 1 (.slice (some ⟨w.heap.size, 0, none⟩) len len) len (B8 (C.set k d)) ∧ wr.grownBy (wr.setCell ⟨w.heap.size, k, none⟩ (.int .u8 (d : Int))) (some w.heap.size)) := by
        have := hown.stored k (.int .u8 (d : Int)); rw [B8_set] at this; exact this
      have hlC := own_len hown
      clear hd hc hown0 hgrow0
      go_wp2
      go_roundw
      case rel => exact ⟨k + 1, C.set k d, by omega, by go_num, HO.out.1, copy_step HC.out (by omega) (by rw [hA.size]; exact hlt) HD.out, hnx.grown HO.out.2 hnx.size (fun j hj => by cases hj; exact Nat.le_refl _)⟩
      case measure => simp [intOf]; omega
    · obtain rfl : k = len := by omega
      have hlC := own_len hown
      have hCA : C = A := by
        have h := HC.out
        rwa [List.take_of_length_le (by omega), List.take_of_length_le (by rw [hA.size]; exact Nat.le_refl _)] at h
      subst hCA
      clear hown0 hgrow0
      go_wp2
      go_ret
      exact ⟨rfl, hown, hnx⟩

/-- A list of bytes as a string. -/
def mkS (l : List Nat) : ByteArray := ⟨(l.map UInt8.ofNat).toArray⟩
theorem fold_push (l : List Nat) : ∀ r : ByteArray, (l.map (fun n : Nat => (n : Int))).foldl (fun r n => r.push (UInt8.ofNat n.toNat)) r = r ++ mkS l := by
  induction l with
  | nil => intro r; exact ByteArray.append_empty.symm
  | cons x l ih =>
    intro r
    rw [List.map_cons, List.foldl_cons, ih]
    apply ByteArray.ext
    simp [mkS]
theorem conv_str {w : World} {base g n cap : Nat} {l : List Nat} (h : w.ownsRow base 5 1 (.slice (some ⟨g, 0, none⟩) n cap) n (B8 l)) :
    (convert 22 9 (.slice (some ⟨g, 0, none⟩) n cap)).run Try.prog w = .ok (.string (mkS l)) w := by
  have hc : (loadCells ⟨g, 0, none⟩ n).run Try.prog w = .ok ((l.map (fun n : Nat => (n : Int))).map (Value.int .u8)).toArray w := by
    have e : (l.map (fun n : Nat => (n : Int))).map (Value.int .u8) = B8 l := by simp [B8, Function.comp_def]
    have hlen : (B8 l).length = n := by rw [B8_length, own_len h]
    rw [e]
    have := run_loadCells_list (P := Try.prog) (w := w) ⟨g, 0, none⟩ (B8 l) (h.cells rfl)
    rwa [hlen] at this
  rw [run_convert_bytes_string w 22 9 5 (some ⟨g, 0, none⟩) n cap Try.underlying22 Try.underlying5 Try.underlying9, run_bytesToString w ⟨g, 0, none⟩ n cap _ hc, fold_push]
  simp
end Go.Proofs.Qxb6605995a
