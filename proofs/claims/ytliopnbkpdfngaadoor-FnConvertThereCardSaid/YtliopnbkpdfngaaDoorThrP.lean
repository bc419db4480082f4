/-
  The law FnConvertThere holds: for every value and every kind a value converted to its own kind stays, and an integer converted to a wider kind of its sign stays, and comes back.
  Conditions: those of the given card: the listed variable starts as the program's text lays it.
-/
import Derived.Test.YtliopnbkpdfngaaDoorCards
import Derived.Test.YtliopnbkpdfngaaDoorTie
import Derived.Test.YtliopnbkpdfngaaDoorThrA
import Derived.Test.YtliopnbkpdfngaaDoorFrm
import Derived.ProofKit
import Derived.Deep.DeepHandedRow
import Derived.Deep.DeepWitnessRowRef
set_option linter.unusedVariables false
set_option linter.unusedSimpArgs false
namespace Go.Proofs.YtliopnbkpdfngaaDoor.fnConvertThere
open Go.ChangeShapes Go.WideShapes Go.ChangeAt Go.RowKit
theorem own : ownKnob Tryd.prog.godebug = none := by kernel_rfl
abbrev divS : ByteArray := ⟨#[100, 105, 118, 105, 115, 105, 111, 110, 32, 98, 121, 32, 122, 101, 114, 111]⟩
noncomputable def low : Nat := (World.holding Tryd.prog default ⟨#[], #[], []⟩).heap.size
/-- a world for the witness: the sentinel lies as its initialiser lays it -/
noncomputable def laidWorld (os : Os) : World :=
  let w0 := World.holding Tryd.prog os ⟨#[.cells #[.string divS] 79], #[], []⟩
  { w0 with heap := w0.heap.modify 1 fun
      | .cells _ t frozen => .cells #[.iface 77 (.pointer (some ⟨low, 0, none⟩))] t frozen
      | o => o }
abbrev wargs : Array Value := #[V E0 0 0 0 E0, .int .i64 0]
theorem laid_met (os : Os) : laidMet Tryd.prog Rows.fnConvertThereRow.laid ((laidWorld os).forCall (fun _ _ => 0) ⟨#[], wargs, []⟩).memory :=
  laidMet_of_run (ps := [.cell 1 0, .cell low 0]) 8 (by kernel_rfl) (by kernel_rfl) (by kernel_rfl)
theorem reads (os : Os) {H : Type} (enc : TypeId × Value → H) : ∃ places, DataW.whole enc Tryd.prog ((laidWorld os).forCall (fun _ _ => 0) ⟨#[], wargs, []⟩).memory Tryd.f5.params.toList Rows.fnConvertThereSpec.vars false wargs.toList 8 = some ([.agg [.lit (.string []), .lit (.int .i64 0), .lit (.int .u64 0), .lit (.float .f64 0), .lit (.string [])], .lit (.int .i64 0)], [], places) :=
  ⟨[], by kernel_rfl⟩
theorem par_ok : ∀ t ∈ Tryd.f5.params.toList, Tryd.prog.readableRec t = true ∧ t < Tryd.prog.types.size := by
  intro t ht
  rw [Tryd.params5] at ht
  have h2 : t = 25 ∨ t = 3 := by simpa using ht
  rcases h2 with rfl | rfl
  · exact ⟨by kernel_rfl, of_decide_eq_true (by kernel_rfl)⟩
  · exact ⟨by kernel_rfl, of_decide_eq_true (by kernel_rfl)⟩
theorem contract (H : Type) (enc : TypeId × Value → H) (W : World) (base : Nat) (args : Array Value) (ds gs : List (DataW H)) (before : List MemPlace)
    (hval : ∀ (j : Nat) t v, Tryd.f5.params[j]? = some t → args[j]? = some v → Value.okWide Tryd.prog W .any base t v)
    (hW : DataW.Whole enc Tryd.prog Tryd.f5.params.toList Rows.fnConvertThereSpec.vars false W args.toList ds gs before) :
    Calls Tryd.prog 5 args W fun e W' => ∃ v, e = .returned v ∧ Rows.fnConvertThereSpec.post enc Tryd.prog Tryd.f5 false true false false W args v W' := by
  have hW' := hW
  obtain ⟨p, q, hA0, hV, rfl, hfz, hnd⟩ := hW
  have hA : DataW.TrodAll enc Tryd.prog W 0 (fun _ => true) true Tryd.f5.params.toList args.toList ds p := hA0
  rw [Tryd.params5] at hA hval
  obtain ⟨v0, vs0, d0, ds0, p0, q0, hargs, rfl, rfl, h0, r0⟩ := trodAll_cons hA
  obtain ⟨v1, vs1, d1, ds1, p1, q1, rfl, rfl, rfl, h1, r1⟩ := trodAll_cons r0
  obtain ⟨rfl, rfl, rfl⟩ := trodAll_nil r1
  obtain rfl : args = #[v0, v1] := by cases args; simp_all
  obtain ⟨rfl, rfl⟩ := trodVars_none hV
  obtain ⟨k, n, u, f, s, rfl, wn, wu, -, -, -⟩ := open_V (hval 0 _ v0 rfl rfl) h0
  obtain ⟨kind, rfl, -⟩ := open_int Tryd.underlying3 (hval 1 _ v1 rfl rfl) h1
  have bn : -9223372036854775808 ≤ n ∧ n < 9223372036854775808 := by simp [Lit.wf, IntKind.min, IntKind.max, IntKind.signed, IntKind.bits] at wn; omega
  have bu : 0 ≤ u ∧ u < 18446744073709551616 := by simp [Lit.wf, IntKind.min, IntKind.max, IntKind.signed, IntKind.bits] at wu; omega
  refine (there_all k n u f s kind bn.1 bn.2 bu.1 bu.2 W).mono fun e W' ⟨he, hb⟩ => ?_
  exact ⟨_, he, law_post hW' rfl rfl rfl rfl rfl par_ok hb⟩
set_option maxRecDepth 100000 in
theorem lifted (os : Os) (started : os.Started) (H : Type) (enc : TypeId × Value → H) (F : Stop.Interp) :
    ReturnsInHanded {} Tryd.checked os 5 .any ((OpenSpec.ofChange Rows.fnConvertThereSpec).preRow enc Tryd.prog Tryd.f5 Rows.fnConvertThereRow.domain false Rows.fnConvertThereRow.laid) (((OpenSpec.ofChange Rows.fnConvertThereSpec).at F).post enc Tryd.prog Tryd.f5 false true false false) := by
  obtain ⟨places, hx⟩ := reads os enc
  refine returnsInHanded_of_row (C := Tryd.checked) (s := OpenSpec.ofChange Rows.fnConvertThereSpec) own started (by kernel_rfl) Tryd.func5
    (witness_row_atRef (enc := enc) (C := Tryd.checked) false (laidWorld os) wargs rfl (by kernel_rfl) (by kernel_rfl) (by kernel_rfl)
      (OpenSpec.preRow_of_cond 8 hx (by kernel_rfl) (fun k hk => by cases hk) (by kernel_rfl) (laid_met os))) ?_
  intro W base args ds gs before hval hW _ _ _ hL _ _
  exact contract H enc W base args ds gs before hval hW
theorem said : Rows.FnConvertThereSaid :=
  OpenClaim.holds_of_cond 5 Tryd.f5 rfl rfl rfl rfl rfl rfl rfl ⟨rfl, rfl, rfl, rfl, rfl⟩ rfl rfl rfl rfl rfl (by kernel_rfl) Tryd.func5 (by kernel_rfl)
    (of_decide_eq_true (by kernel_rfl)) (by unfold Func.isWrapper; first | (rw [if_pos (by decide +kernel)]; kernel_rfl) | (rw [if_neg (by decide +kernel)]; exact ⟨rfl, rfl⟩))
    (fun os started H enc _ F => by rw [OpenClaim.pre_eq_preRow]; exact lifted os started H enc F)
theorem plain (f : FuncId) (fn : Func) (hf : Tryd.pinned.checked.prog.funcNamed "pub-quern/laws.FnConvertThere" = some f) (hfn : Tryd.pinned.checked.prog.funcs[f]? = some fn) :
    true = Tryd.pinned.checked.prog.looks [] ∧ ∀ (j : Nat) t, fn.params[j]? = some t → Tryd.pinned.checked.prog.wantsStandIn t = false := by
  obtain rfl : f = 5 := Option.some.inj ((show Tryd.prog.funcNamed "pub-quern/laws.FnConvertThere" = some 5 by kernel_rfl).symm.trans hf) |>.symm
  obtain rfl : fn = Tryd.f5 := (Option.some.inj (Tryd.func5.symm.trans hfn)).symm
  refine ⟨by kernel_rfl, fun j t ht => ?_⟩
  rw [Tryd.params5] at ht
  have h2 : t = 25 ∨ t = 3 := by simpa using Array.mem_of_getElem? ht
  rcases h2 with rfl | rfl
  · exact (show Tryd.prog.wantsStandIn 25 = false by kernel_rfl)
  · exact (show Tryd.prog.wantsStandIn 3 = false by kernel_rfl)
theorem card : Rows.FnConvertThereCardSaid :=
  Claim7.holds_tied_plain_at .later [] _ _ _ _ said (fun _ h => by cases h) (by kernel_rfl) (fun _ h => by cases h) fnConvertThere_row_tie rfl ⟨rfl, rfl⟩ (by kernel_rfl) rfl plain (by kernel_rfl)
end Go.Proofs.YtliopnbkpdfngaaDoor.fnConvertThere
