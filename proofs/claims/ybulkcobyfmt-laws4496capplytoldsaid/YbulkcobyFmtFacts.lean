import Derived.Test.YbulkcobyFmtRows
import Derived.WalkKit
import Derived.WalkSpells
import Derived.WalkLawsBesides
import Derived.Laws.EntriesVeiled
import Derived.Stop.FmtLaws
namespace Go.Proofs.YbulkcobyFmt
open Go.RowKit Go.Extern.Stop Go.Stop Go.Extern

/-- math.Float64bits. -/
theorem bits15 (b : Nat) (w : World) : (callFunc 15 #[.float .f64 b]).run Ybaf.prog w = .ok (.value (.int .u64 b)) w := by
  rw [run_callFunc_extern (e := MathFloatBits.float64bits) Ybaf.func15 (by kernel_rfl) (by kernel_rfl) (by kernel_rfl) (by kernel_rfl)]
  rfl

theorem call17 (args : Array Value) (w : World) : (callFunc 17 args).run Ybaf.prog w = ((FmtStop.sprintf #[9, 184] #[9] args).run Ybaf.prog w).andThen fun v w' => .ok (.value v) w' :=
  run_callFunc_extern Ybaf.func17 (by kernel_rfl) (by kernel_rfl) (by kernel_rfl) (by kernel_rfl) args w
theorem guardOk (name : String) (w : World) : (FmtStop.guard name).run Ybaf.prog w = .ok () w := by kernel_rfl

def shape3 : List UInt8 := [5, 3, 0, 0, 0, 0, 0, 0, 0, 105, 110, 116]
def shape9 : List UInt8 := [12, 6, 0, 0, 0, 0, 0, 0, 0, 115, 116, 114, 105, 110, 103]
theorem op3_100 (name : String) (x : Int) (w : World) : (FmtStop.operand name false 100 false (.iface 3 (.int .i64 x))).run Ybaf.prog w = .ok (shape3, Go.Extern.Stop.digits 8 (x % 2 ^ 64).toNat) w := by kernel_rfl
theorem op9_115 (name : String) (x : ByteArray) (w : World) : (FmtStop.operand name false 115 false (.iface 9 (.string x))).run Ybaf.prog w = .ok (shape9, FmtStop.pack x.data.toList) w := by kernel_rfl

def fmtPop : ByteArray := ⟨#[37, 115, 32, 110, 101, 101, 100, 115, 32, 37, 115, 44, 32, 102, 111, 117, 110, 100, 32, 37, 100, 32, 111, 110, 32, 116, 104, 101, 32, 115, 116, 97, 99, 107]⟩
def fmtLit : ByteArray := ⟨#[37, 115, 32, 110, 101, 101, 100, 115, 32, 97, 32, 37, 115, 44, 32, 37, 115, 32, 119, 114, 105, 116, 116, 101, 110, 32, 106, 117, 115, 116, 32, 98, 101, 102, 111, 114, 101, 32, 105, 116]⟩
def fmtQty : ByteArray := ⟨#[37, 100, 32, 37, 115, 115]⟩
theorem printedPop : FmtStop.printed? fmtPop 3 = some [(0, 115, false), (1, 115, false), (2, 100, false)] := by kernel_rfl
theorem printedLit : FmtStop.printed? fmtLit 3 = some [(0, 115, false), (1, 115, false), (2, 115, false)] := by kernel_rfl
theorem printedQty : FmtStop.printed? fmtQty 2 = some [(0, 100, false), (1, 115, false)] := by kernel_rfl

theorem loadCells3 (w : World) (b : Nat) (x y z : Value) (h0 : w.cell? ⟨b, 0, none⟩ = some x) (h1 : w.cell? ⟨b, 1, none⟩ = some y) (h2 : w.cell? ⟨b, 2, none⟩ = some z) :
    (loadCells ⟨b, 0, none⟩ 3).run Ybaf.prog w = .ok #[x, y, z] w := by
  have := run_loadCells_list (P := Ybaf.prog) w ⟨b, 0, none⟩ [x, y, z] (by intro j v hj; match j, hj with
    | 0, hj => simp at hj; subst hj; simpa [Addr.add] using h0
    | 1, hj => simp at hj; subst hj; simpa [Addr.add] using h1
    | 2, hj => simp at hj; subst hj; simpa [Addr.add] using h2)
  simpa using this

theorem loadCells2 (w : World) (b : Nat) (x y : Value) (h0 : w.cell? ⟨b, 0, none⟩ = some x) (h1 : w.cell? ⟨b, 1, none⟩ = some y) :
    (loadCells ⟨b, 0, none⟩ 2).run Ybaf.prog w = .ok #[x, y] w := by
  have := run_loadCells_list (P := Ybaf.prog) w ⟨b, 0, none⟩ [x, y] (by intro j v hj; match j, hj with
    | 0, hj => simp at hj; subst hj; simpa [Addr.add] using h0
    | 1, hj => simp at hj; subst hj; simpa [Addr.add] using h1)
  simpa using this

/-- fmt's text, whatever the tape gives: a string. -/
def strOf (x : Nat) : ByteArray := ⟨(if (spell x x).length < 2 ^ 63 then spell x x else []).toArray⟩
theorem run_text (name : String) (head : List (List UInt8)) (ops : List (List UInt8 × List UInt8)) (w : World) :
    ∃ s : ByteArray, (FmtStop.text name head ops).run Ybaf.prog w = .ok (.string s) w.drew :=
  ⟨strOf _, rfl⟩

theorem sprintfPop (w : World) (b : Nat) (s1 s2 : ByteArray) (n : Int) (h0 : w.cell? ⟨b, 0, none⟩ = some (.iface 9 (.string s1))) (h1 : w.cell? ⟨b, 1, none⟩ = some (.iface 9 (.string s2))) (h2 : w.cell? ⟨b, 2, none⟩ = some (.iface 3 (.int .i64 n))) :
    ∃ s : ByteArray, (callFunc 17 #[.string fmtPop, .slice (some ⟨b, 0, none⟩) 3 3]).run Ybaf.prog w = .ok (.value (.string s)) w.drew := by
  obtain ⟨s, hs⟩ := run_text "fmt.Sprintf" [fmtPop.data.toList] [(shape9, FmtStop.pack s1.data.toList), (shape9, FmtStop.pack s2.data.toList), (shape3, Go.Extern.Stop.digits 8 (n % 18446744073709551616).toNat)] w
  refine ⟨s, ?_⟩
  rw [call17]
  simp [FmtStop.sprintf_lit, guardOk, FmtStop.cells, loadCells3 w b _ _ _ h0 h1 h2, printedPop, FmtStop.readAll, op9_115, op3_100, Result.andThen]
  rw [hs]

theorem sprintfLit (w : World) (b : Nat) (s1 s2 s3 : ByteArray) (h0 : w.cell? ⟨b, 0, none⟩ = some (.iface 9 (.string s1))) (h1 : w.cell? ⟨b, 1, none⟩ = some (.iface 9 (.string s2))) (h2 : w.cell? ⟨b, 2, none⟩ = some (.iface 9 (.string s3))) :
    ∃ s : ByteArray, (callFunc 17 #[.string fmtLit, .slice (some ⟨b, 0, none⟩) 3 3]).run Ybaf.prog w = .ok (.value (.string s)) w.drew := by
  obtain ⟨s, hs⟩ := run_text "fmt.Sprintf" [fmtLit.data.toList] [(shape9, FmtStop.pack s1.data.toList), (shape9, FmtStop.pack s2.data.toList), (shape9, FmtStop.pack s3.data.toList)] w
  refine ⟨s, ?_⟩
  rw [call17]
  simp [FmtStop.sprintf_lit, guardOk, FmtStop.cells, loadCells3 w b _ _ _ h0 h1 h2, printedLit, FmtStop.readAll, op9_115, Result.andThen]
  rw [hs]

theorem sprintfQty (w : World) (b : Nat) (n : Int) (s1 : ByteArray) (h0 : w.cell? ⟨b, 0, none⟩ = some (.iface 3 (.int .i64 n))) (h1 : w.cell? ⟨b, 1, none⟩ = some (.iface 9 (.string s1))) :
    ∃ s : ByteArray, (callFunc 17 #[.string fmtQty, .slice (some ⟨b, 0, none⟩) 2 2]).run Ybaf.prog w = .ok (.value (.string s)) w.drew := by
  obtain ⟨s, hs⟩ := run_text "fmt.Sprintf" [fmtQty.data.toList] [(shape3, Go.Extern.Stop.digits 8 (n % 18446744073709551616).toNat), (shape9, FmtStop.pack s1.data.toList)] w
  refine ⟨s, ?_⟩
  rw [call17]
  simp [FmtStop.sprintf_lit, guardOk, FmtStop.cells, loadCells2 w b _ _ h0 h1, printedQty, FmtStop.readAll, op9_115, op3_100, Result.andThen]
  rw [hs]
end Go.Proofs.YbulkcobyFmt
