import Derived.Test.Qxb6608518aFmtRows
import Derived.Stop.CallBack
import Derived.Stop.IfaceNil
import Derived.Laws.Cells
import Derived.Stop.FmtTextSlices
import Derived.Stop.Texts
import Derived.Stop.JoinedTold
import GoSem.ClaimData
namespace Go.Proofs.Qxb6608518aFmt
open Go.Extern.Stop Go.Stop Go.Extern

/-! ### fmt.Sprintf: function 8: a plain stop -/
@[go_sem] theorem call8 (args : Array Value) (w : World) : (callFunc 8 args).run Tryf.prog w = ((FmtStop.sprintf #[9, 49] #[9] args).run Tryf.prog w).andThen fun v w' => .ok (.value v) w' :=
  run_callFunc_extern Tryf.func8 (by kernel_rfl) (by kernel_rfl) (by kernel_rfl) (by kernel_rfl) args w
@[go_sem] theorem guardf (name : String) (w : World) : (FmtStop.guard name).run Tryf.prog w = .ok () w := by kernel_rfl
@[go_sem] theorem fmtX : FmtStop.printed? ⟨#[37, 88]⟩ 1 = some [(0, 88, false)] := by kernel_rfl
@[go_sem] theorem fmtXr (w : World) : (FmtDoors.printed ⟨#[37, 88]⟩ 1).run Tryf.prog w = .ok [(0, 88, false)] w := by kernel_rfl

/-- The name of []uint8, as bytes. -/
def nameB : List UInt8 := [91, 93, 117, 105, 110, 116, 56]
theorem nameB_is : (Tryf.t32.str).toUTF8.data.toList = nameB := by kernel_rfl
/-- The shape of []uint8. -/
def shape32 : List UInt8 := 13 :: (FmtStop.pack nameB ++ 6 :: FmtStop.pack "uint8".toUTF8.data.toList)
theorem value5 (name : String) (x : Int) (w : World) : (FmtStop.value name FmtStop.depth 5 [.int .u8 x]).run Tryf.prog w = .ok (digits 8 (x % 2 ^ 64).toNat) w := by kernel_rfl
theorem values5 (name : String) (w : World) : ∀ xs : List Int, (List.mapM ((fun c => FmtStop.value name FmtStop.depth 5 [c]) ∘ Value.int IntKind.u8) xs).run Tryf.prog w = .ok (xs.map fun x => digits 8 (x % 18446744073709551616).toNat) w
  | [] => by simp [List.mapM_nil]
  | x :: xs => by
    have ih := values5 name w xs
    have h := value5 name x w
    simp [List.mapM_cons, h, ih, Result.andThen]
theorem opBytes_88 (name : String) (a : Addr) (cap : Nat) (xs : List Int) (w : World) (hc : ∀ j v, (xs.map (Value.int .u8))[j]? = some v → w.cell? (a.add j) = some v) :
    (FmtStop.operand name false 88 false (.iface 32 (.slice (some a) xs.length cap))).run Tryf.prog w = .ok (shape32, 1 :: (digits 8 xs.length ++ FmtText.intValues xs)) w := by
  have h1 : (typeStr 32).run Tryf.prog w = .ok Tryf.t32.str w := by kernel_rfl
  have d2 : Tryf.t32.desc = .slice 5 := rfl
  have hb : (FmtStop.bare (FmtStop.asked false 88 false) 32).run Tryf.prog w = .ok true w := by kernel_rfl
  have hs : (FmtStop.scalar 5).run Tryf.prog w = .ok true w := by kernel_rfl
  have hy : (Extern.Stop.isByte 5).run Tryf.prog w = .ok true w := by kernel_rfl
  have hw : Tryf.prog.funcs.any (·.name == FmtStop.writeWord) = true := by kernel_rfl
  have hsh : (FmtStop.shape name (FmtStop.asked false 88 false) FmtStop.depth 5).run Tryf.prog w = .ok (6 :: FmtStop.pack "uint8".toUTF8.data.toList) w := by kernel_rfl
  have hl := run_loadCells_list (P := Tryf.prog) w a (xs.map (Value.int .u8)) hc
  rw [List.length_map] at hl
  have hn : Tryf.t32.str.toByteArray.data.toList = nameB := nameB_is
  simp [FmtStop.operand, h1, hb, hs, hy, hsh, hl, values5, shape32, FmtText.intValues, hn]
  intro hno
  obtain ⟨i, hi, _, _, he⟩ := Array.any_iff_exists.1 hw
  exact absurd (by simpa using he) (hno i hi)

/-- What fmt is asked: the format, the shape of []uint8, the three bytes. -/
def reading (xs : List Int) : List (List UInt8) := [[37, 88], shape32, 1 :: (digits 8 xs.length ++ FmtText.intValues xs)]
theorem t_parse : (FmtText.parse [37, 88]).map FmtText.glue = some [.verb {} 88] := by rfl
theorem t_text (xs : List Int) (hx : ∀ x ∈ xs, (Lit.int .u8 x).wf = true) (hl : xs.length < 2 ^ 64) : FmtText.text "fmt.Sprintf" (reading xs) = some (FmtText.hexOf true (FmtText.bytesOf xs)) := by
  have ho : FmtText.operand shape32 (1 :: (digits 8 xs.length ++ FmtText.intValues xs)) = some (.slice nameB "uint8".toUTF8.data.toList true false (FmtText.intScalars .u8 xs)) :=
    FmtText.operand_ints (name := nameB) (by decide) (FmtText.unpack_pack "uint8".toUTF8.data.toList (by decide)) .u8 xs hx hl
  rw [reading, FmtText.text_sprintf_glued t_parse (FmtText.operands_cons ho FmtText.operands_nil)]
  simp [FmtText.render, FmtText.printArg_X_bytes, FmtText.fmtSx_plain]
end Go.Proofs.Qxb6608518aFmt
