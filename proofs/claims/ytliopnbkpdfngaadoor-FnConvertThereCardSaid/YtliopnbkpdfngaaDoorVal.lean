/-
  Words of this claim: a value of the thin package, contracts that make memory of their own alone. No condition.
-/
import Derived.Test.YtliopnbkpdfngaaDoorTa
set_option linter.unusedVariables false
set_option linter.unusedSimpArgs false
namespace Go.Proofs.YtliopnbkpdfngaaDoor
open Go.RowKit
theorem bcell {W w1 : World} (hb : Below W.heap.size W w1) : (∀ b o, b < W.heap.size → w1.cell? ⟨b, o, none⟩ = W.cell? ⟨b, o, none⟩) ∧ (∀ b o, b < W.heap.size → w1.frozen? ⟨b, o, none⟩ = W.frozen? ⟨b, o, none⟩) :=
  ⟨fun b o h => hb.cell (p := ⟨b, o, none⟩) h, fun b o h => hb.frozen (p := ⟨b, o, none⟩) h⟩
theorem bl_alloc {w w1 : World} {o : Obj} (hb : Below (w.alloc o).heap.size (w.alloc o) w1) : Below w.heap.size w w1 :=
  ((Below.refl _ _).alloc (Nat.le_refl _) _).trans (hb.mono (by simp))
theorem bl_trans {w w1 w2 : World} (h : Below w.heap.size w w1) (k : Below w1.heap.size w1 w2) : Below w.heap.size w w2 := h.trans (k.mono h.size)
theorem st_float (a : Addr) (k : FloatKind) (x : Nat) (m : Mode) (w : World) : (store a (.float k x) m).run Tryd.prog w = stored Tryd.prog w a (.float k x) m := run_store _ _ _ _ _ rfl
/-- a value of the thin package -/
abbrev V (k : ByteArray) (n u : Int) (f : Nat) (s : ByteArray) : Value := .agg #[.string k, .int .i64 n, .int .u64 u, .float .f64 f, .string s]
abbrev E0 : ByteArray := ⟨#[]⟩
/-- a call gives this value, and writes in memory of its own alone -/
def Gives (f : FuncId) (args : Array Value) (v : Value) : Prop := ∀ w, Calls Tryd.prog f args w fun e w' => e = .returned v ∧ Below w.heap.size w w'
end Go.Proofs.YtliopnbkpdfngaaDoor
