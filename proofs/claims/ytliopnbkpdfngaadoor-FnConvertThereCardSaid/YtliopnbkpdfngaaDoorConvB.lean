/-
  Contracts of ql.convert and of what it calls, by pairs of types. Conditions: as each theorem states them.
-/
import Derived.Test.YtliopnbkpdfngaaDoorTa
namespace Go.Proofs.YtliopnbkpdfngaaDoor
open Go.RowKit
set_option maxRecDepth 100000 in
set_option maxHeartbeats 1000000 in
theorem ovf_any (t : TypeId) (v : Value) (h1 : (t == 60) = false) (h2 : (t == 61) = false) (h3 : (t == 62) = false) (c : Int) (w : World) : Calls Tryd.prog 34 #[.iface t v, .int .i64 c] w fun e w' => e = .returned .nilIface ∧ w = w' := by
  have g1 := tm_ii t h1 v
  have g2 := tm_ir t h2 v
  have g3 := tm_iu t h3 v
  go_enter Tryd.func34, Tryd.ntmps34
  go_wp2
  all_goals (go_ret; exact ⟨rfl, rfl⟩)
end Go.Proofs.YtliopnbkpdfngaaDoor
