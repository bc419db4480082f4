/-
  The frame of a law's row: arguments opened, read again, the post at 'true'. No condition.
-/
import Derived.Test.YtliopnbkpdfngaaDoorVal
import Derived.Lib.SmallJoins
import Derived.Laws.Cover2
import Derived.Below
import Derived.ChangeSame
import Derived.OpenShut
set_option linter.unusedVariables false
set_option linter.unusedSimpArgs false
namespace Go.Proofs.YtliopnbkpdfngaaDoor
open Go.Joins Go.ChangeShapes Go.WideShapes Go.RowKit Go.Deep
section
variable {H : Type} {enc : TypeId × Value → H}
/-- Arguments read as they did, wherever old memory is as it was. -/
theorem args_stay {P : Program} (hl : laidOutB P = true) {W W' : World} (hb : Below W.heap.size W W') : ∀ (ts : List TypeId) (vs : List Value) (ds : List (DataW H)) (ps : List MemPlace),
    (∀ t ∈ ts, P.readableRec t = true ∧ t < P.types.size) → DataW.TrodAll enc P W 0 (fun _ => true) true ts vs ds ps → (∀ x ∈ ps, x.block < W.heap.size) →
    ∀ sp : Nat → Bool, (∀ p ∈ ps, sp p.block = true) → DataW.TrodAll enc P W' 0 sp true ts vs ds ps := by
  intro ts
  induction ts with
  | nil =>
    intro vs ds ps _ h _ sp _
    obtain ⟨rfl, rfl, rfl⟩ := trodAll_nil h
    exact trodAll_mk0
  | cons t ts ih =>
    intro vs ds ps hr h hlt sp hsp
    obtain ⟨v0, vs0, d0, ds0, p0, q0, rfl, rfl, rfl, h0, r0⟩ := trodAll_cons h
    obtain ⟨h1, h2⟩ := hr t (by simp)
    exact trodAll_cons_mk (WideElems.Trod_stays hl h1 h2 h0 (fun x hx => hb.same (hlt x (by simp [hx]))) (fun x hx => hsp x (by simp [hx])))
      (ih vs0 ds0 q0 (fun t ht => hr t (by simp [ht])) r0 (fun x hx => hlt x (by simp [hx])) sp (fun p hp => hsp p (by simp [hp])))
/-- The row's post, where the call answered true and wrote in memory of its own alone. -/
theorem law_post {f : Func} {s : ChangeSpec} {W W' : World} {args : Array Value} {ds gs : List (DataW H)} {before : List MemPlace}
    (hW : DataW.Whole enc Tryd.prog f.params.toList s.vars false W args.toList ds gs before) (hsv : s.vars = [])
    (e1 : (s.fn H (ds ++ gs)).results = [.lit (.bool true)]) (e2 : (s.fn H (ds ++ gs)).args = ds) (e3 : (s.fn H (ds ++ gs)).vars = [])
    (hrt : f.resultTypes = #[4]) (hpar : ∀ t ∈ f.params.toList, Tryd.prog.readableRec t = true ∧ t < Tryd.prog.types.size) (hb : Below W.heap.size W W') :
    s.post enc Tryd.prog f false true false false W args (.bool true) W' := by
  have hW' := hW
  have hlt : ∀ p ∈ before, p.block < W.heap.size := fun p hp => hW.lt p hp
  obtain ⟨p, q, hA0, hV, hbef, hfz, hnd⟩ := hW
  rw [hsv] at hV
  obtain ⟨rfl, rfl⟩ := trodVars_none hV
  simp only [List.append_nil] at hbef
  subst hbef
  have hl : laidOutB Tryd.prog = true := by kernel_rfl
  have A1 := args_stay (enc := enc) hl hb _ _ _ _ hpar hA0 hlt
  have R1 : ∀ (b : Nat) (sp : Nat → Bool) (hd : Bool), DataW.TrodAll enc Tryd.prog W' b sp hd f.resultTypes.toList ((Value.bool true).resultList f.resultTypes.size) (s.fn H (ds ++ [])).results [] := by
    intro b sp hd
    rw [e1, hrt]
    exact trodAll_cons_mk (shut_bool Tryd.underlying4 _) trodAll_mk0
  have V1 : ∀ sp : Nat → Bool, DataW.TrodVars enc Tryd.prog W' sp s.vars (s.fn H (ds ++ [])).vars [] := by
    intro sp
    rw [e3, hsv]
    exact rfl
  refine ⟨ds, [], before, [], before, [], hW', R1 _ _ _, by rw [e2]; exact A1 _ (fun p hp => by simpa using hlt p hp), V1 _, World.keptBut_mono (fun p hp => ⟨hp, by simpa using hp⟩) (hb.frame (· ∈ before)), fun h => (by cases h)⟩
/-- An argument of the thin package's type, opened. -/
theorem open_V {W : World} {b0 : Nat} {v : Value} {d : DataW H} {p : List MemPlace} {sp : Nat → Bool} (hv : Value.okWide Tryd.prog W .any b0 25 v) (h : DataW.Trod enc Tryd.prog W 0 sp true 25 v d p) :
    ∃ (k : ByteArray) (n u : Int) (f : Nat) (s : ByteArray), v = V k n u f s ∧ (Lit.int .i64 n).wf = true ∧ (Lit.int .u64 u).wf = true ∧ (Lit.float .f64 f).wf = true ∧ k.size ≤ maxLen ∧ s.size ≤ maxLen := by
  have hS := Tryd.underlying25
  obtain ⟨cs, rfl, hsz⟩ := okWide_struct hS hv
  have hC : Tryd.prog.cellsOf 25 = 5 := by kernel_rfl
  obtain ⟨fuel, hf⟩ := h
  obtain ⟨l⟩ := cs
  obtain ⟨c0, c1, c2, c3, c4, rfl⟩ : ∃ c0 c1 c2 c3 c4, l = [c0, c1, c2, c3, c4] := by
    have h5 : l.length = 5 := by simpa using hsz.trans hC
    match l, h5 with
    | [c0, c1, c2, c3, c4], _ => exact ⟨c0, c1, c2, c3, c4, rfl⟩
  obtain ⟨xs, m, _, -, -, hlen, hg⟩ := DataW.trod_struct hS hf
  have k9 : Tryd.prog.cellsOf 9 = 1 := by kernel_rfl
  have k2 : Tryd.prog.cellsOf 2 = 1 := by kernel_rfl
  have k22 : Tryd.prog.cellsOf 22 = 1 := by kernel_rfl
  have k23 : Tryd.prog.cellsOf 23 = 1 := by kernel_rfl
  have at_ : ∀ i, i < 5 → ∃ y, xs[i]? = some y := fun i hi => ⟨_, List.getElem?_eq_getElem (by simp at hlen; omega)⟩
  have h0 : DataW.trod enc Tryd.prog W 0 sp true m 9 [c0] = xs[0]? := by simpa [Value.cells, k9] using hg 0 _ rfl
  have h1 : DataW.trod enc Tryd.prog W 0 sp true m 2 [c1] = xs[1]? := by simpa [Value.cells, k2] using hg 1 _ rfl
  have h2 : DataW.trod enc Tryd.prog W 0 sp true m 22 [c2] = xs[2]? := by simpa [Value.cells, k22] using hg 2 _ rfl
  have h3 : DataW.trod enc Tryd.prog W 0 sp true m 23 [c3] = xs[3]? := by simpa [Value.cells, k23] using hg 3 _ rfl
  have h4 : DataW.trod enc Tryd.prog W 0 sp true m 9 [c4] = xs[4]? := by simpa [Value.cells, k9] using hg 4 _ rfl
  obtain ⟨y0, g0⟩ := at_ 0 (by decide)
  obtain ⟨y1, g1⟩ := at_ 1 (by decide)
  obtain ⟨y2, g2⟩ := at_ 2 (by decide)
  obtain ⟨y3, g3⟩ := at_ 3 (by decide)
  obtain ⟨y4, g4⟩ := at_ 4 (by decide)
  obtain ⟨k, e0, -, hk⟩ := DataW.trod_string Tryd.underlying9 (h0.trans g0)
  obtain ⟨a, e1, -, ha⟩ := DataW.trod_int Tryd.underlying2 (h1.trans g1)
  obtain ⟨b, e2, -, hb⟩ := DataW.trod_int Tryd.underlying22 (h2.trans g2)
  obtain ⟨s, e4, -, hs⟩ := DataW.trod_string Tryd.underlying9 (h4.trans g4)
  have h5 := h3.trans g3
  have h3' : ∃ x, c3 = .float .f64 x ∧ (Lit.float .f64 x).wf = true := by
    cases m with
    | zero => simp [DataW.trod] at h5
    | succ m =>
      have hu := Tryd.underlying23
      cases c3 <;> simp [DataW.trod, hu] at h5
      rename_i kk x
      obtain ⟨⟨rfl, hw⟩, -⟩ := h5
      exact ⟨x, rfl, by simpa using hw⟩
  obtain ⟨x, rfl, hx⟩ := h3'
  simp at e0 e1 e2 e4
  subst e0 e1 e2 e4
  exact ⟨k, a, b, x, s, rfl, ha, hb, hx, hk, hs⟩
end
end Go.Proofs.YtliopnbkpdfngaaDoor
