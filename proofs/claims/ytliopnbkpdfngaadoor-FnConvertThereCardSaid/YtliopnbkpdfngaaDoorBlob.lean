/-
  A blob through impl.Convert: in, ql.convert, out. No condition.
-/
import Derived.Test.YtliopnbkpdfngaaDoorConvT
import Derived.Test.YtliopnbkpdfngaaDoorCvt
import Derived.Test.YtliopnbkpdfngaaDoorWid
import Derived.Laws.IdiomStrings
set_option linter.unusedVariables false
set_option linter.unusedSimpArgs false
namespace Go.Proofs.YtliopnbkpdfngaaDoor
open Go.RowKit
abbrev KBlob : ByteArray := ⟨#[98, 108, 111, 98]⟩
/-- from g on lie the bytes of s -/
def Blob (g : Addr) (s : ByteArray) (w : World) : Prop :=
  g.block < w.heap.size ∧ ∀ j (hj : j < s.data.toList.length), w.cell? (g.add j) = some (.int .u8 ((s.data.toList[j]).toNat : Int))
theorem add_block (g : Addr) (j : Nat) : (g.add j).block = g.block := by unfold Addr.add; split <;> rfl
theorem Blob.below {g : Addr} {s : ByteArray} {w w' : World} (h : Blob g s w) (hb : Below w.heap.size w w') : Blob g s w' :=
  ⟨Nat.lt_of_lt_of_le h.1 hb.size, fun j hj => by rw [hb.cell (by rw [add_block]; exact h.1)]; exact h.2 j hj⟩
theorem Blob.alloc {g : Addr} {s : ByteArray} {w : World} (h : Blob g s w) (o : Obj) : Blob g s (w.alloc o) := h.below ((Below.refl _ _).alloc (Nat.le_refl _) _)
theorem bl_drew {B : Nat} {w w' : World} (h : Below B w w') : Below B w w'.drew := ⟨h.os, h.tape, h.output, h.size, h.block⟩
def SomeBlob (s : ByteArray) (w : World) (e : Ending) (w' : World) : Prop := ∃ (g : Addr) (cap : Nat), e = .returned (.iface 43 (.slice (some g) s.size cap)) ∧ Blob g s w' ∧ Below w.heap.size w w'
theorem blob_new (w : World) (b : Nat) (hb : b = w.heap.size) (s : ByteArray) (c : Nat) (e : TypeId) (fz : Nat × Nat) : Blob ⟨b, 0, none⟩ s (w.alloc (.cells (bytesRow s c) e fz)) := by
  subst hb
  refine ⟨by simp, fun j hj => ?_⟩
  have ha : (⟨w.heap.size, 0, none⟩ : Addr).add j = ⟨w.heap.size, j, none⟩ := by unfold Addr.add; split <;> simp_all
  rw [ha]
  have hg : (w.alloc (.cells (bytesRow s c) e fz)).heap[w.heap.size]? = some (.cells (bytesRow s c) e fz) := by
    show (w.heap.push _)[w.heap.size]? = _
    simp
  unfold World.cell?
  rw [hg]
  have hj' : j < s.data.size := by simpa using hj
  have hj2 : j < s.size := hj'
  simp [bytesRow, Array.getElem?_append, hj', hj2]
theorem Blob.drewN {g : Addr} {s : ByteArray} {w : World} (h : Blob g s w) (n : Nat) : Blob g s (w.drewN n) := ⟨h.1, h.2⟩
set_option maxRecDepth 100000 in
set_option maxHeartbeats 2000000 in
theorem in_blob (n u : Int) (f : Nat) (s : ByteArray) (w : World) : Calls Tryd.prog 18 #[V KBlob n u f s] w (SomeBlob s w) := by
  have hcv := fun w => run_bytes_of_string (P := Tryd.prog) w 9 43 5 s (by kernel_rfl) (by kernel_rfl) (by kernel_rfl)
  go_enter Tryd.func18, Tryd.ntmps18
  go_wp2
  go_ret
  refine ⟨_, _, rfl, ?_, ?_⟩
  · exact Blob.drewN (n := 1) (blob_new _ _ (by simp) _ _ _ _)
  · exact bl_drew (((Below.refl _ _).alloc (Nat.le_refl _) _).alloc (by simp) _)
/-- a call gives this value in every world of a class, and writes in memory of its own alone -/
def GivesAt (C : World → Prop) (f : FuncId) (args : Array Value) (v : Value) : Prop := ∀ w, C w → Calls Tryd.prog f args w fun e w' => e = .returned v ∧ Below w.heap.size w w'
def Lasting (C : World → Prop) : Prop := ∀ w w', Below w.heap.size w w' → C w → C w'
theorem Lasting.alloc {C : World → Prop} (h : Lasting C) {w : World} (hw : C w) (o : Obj) : C (w.alloc o) := h _ _ ((Below.refl _ _).alloc (Nat.le_refl _) _) hw
theorem blob_lasting (g : Addr) (s : ByteArray) : Lasting (Blob g s) := fun _ _ hb h => h.below hb
set_option maxRecDepth 100000 in
set_option maxHeartbeats 2000000 in
theorem out_blob (g : Addr) (s : ByteArray) (cap : Nat) : GivesAt (Blob g s) 30 #[.iface 43 (.slice (some g) s.size cap)] (V KBlob 0 0 0 s) := by
  intro w hB
  have hcv : ∀ o, (convert 43 9 (.slice (some g) s.size cap)).run Tryd.prog (w.alloc o) = .ok (.string s) (w.alloc o) := fun o => by
    have h := run_convert_bytes_back (P := Tryd.prog) (w.alloc o) 43 9 5 g cap s.data.toList (by kernel_rfl) (by kernel_rfl) (by kernel_rfl) (hB.alloc o).2
    have e : s.data.toList.length = s.size := by simp
    rw [e] at h
    simpa using h
  clear hB
  have b1 := @st_float
  have g0 := @tm_bool
  have g1 := @tm_i8
  have g2 := @tm_i16
  have g3 := @tm_i32
  have g4 := @tm_i64
  have g5 := @tm_u8
  have g6 := @tm_u16
  have g7 := @tm_u32
  have g8 := @tm_u64
  have g9 := @tm_f32
  have g10 := @tm_f64
  have g11 := @tm_str
  have h := fun w => run_ta_hit (P := Tryd.prog) (t := 43) (by kernel_rfl) 20 (.slice (some g) s.size cap) w
  go_enter Tryd.func30, Tryd.ntmps30
  go_wp2
  exact bodyPost_ret (v := V KBlob 0 0 0 s) (by simp [results, Tryd.results30, go_sem]) rfl ⟨rfl, (Below.refl _ _).alloc (Nat.le_refl _) _⟩
set_option maxRecDepth 100000 in
set_option maxHeartbeats 1000000 in
theorem told_at {C : World → Prop} (L : Lasting C) (v : Value) (k : ByteArray) (n u : Int) (f : Nat) (s : ByteArray) (H : GivesAt C 30 #[v] (V k n u f s)) : GivesAt C 22 #[v, .nilIface] (.tuple #[V k n u f s, .int .i64 0]) := by
  intro w hC
  have hal := fun o => L.alloc hC o
  have b1 := @st_float
  go_enter Tryd.func22, Tryd.ntmps22
  go_wp2_with (go_at_call 30; refine (H _ (hal _)).mono ?_; clear hal; rintro e w1 ⟨rfl, hb⟩; obtain ⟨hc, hf⟩ := bcell hb; have hz : w.heap.size < w1.heap.size := (by have := hb.size; simp at this; omega))
  exact bodyPost_ret (v := .tuple #[V k n u f s, .int .i64 0]) (by simp [results, Tryd.results22, go_sem, hc, hz]) rfl ⟨rfl, ((((((bl_alloc hb).setCell (Nat.le_refl _) _).setCell (Nat.le_refl _) _).setCell (Nat.le_refl _) _).setCell (Nat.le_refl _) _).setCell (Nat.le_refl _) _)⟩
set_option maxRecDepth 100000 in
set_option maxHeartbeats 1000000 in
theorem iconv_at {C : World → Prop} (L : Lasting C) (v v' : Value) (code : Int) (hcode : (code == 0) = false) (k : ByteArray) (n u : Int) (f : Nat) (s : ByteArray)
    (H1 : Still 23 #[v, .int .i64 code] (.tuple #[v', .nilIface])) (H2 : GivesAt C 22 #[v', .nilIface] (.tuple #[V k n u f s, .int .i64 0])) :
    GivesAt C 17 #[v, .int .i64 code] (.tuple #[V k n u f s, .int .i64 0]) := by
  intro w hC
  have hal := fun o => L.alloc hC o
  have b1 := @st_float
  go_enter Tryd.func17, Tryd.ntmps17
  go_wp2_with (first | (go_at_call 23; refine (H1 _).mono ?_; rintro e w1 ⟨rfl, rfl⟩) | (go_at_call 22; refine (H2 _ (hal _)).mono ?_; clear hal; rintro e w2 ⟨rfl, hb2⟩; obtain ⟨hc2, hf2⟩ := bcell hb2; have hz2 : w.heap.size < w2.heap.size := (by have := hb2.size; simp at this; omega)))
  exact bodyPost_ret (v := .tuple #[V k n u f s, .int .i64 0]) (by simp [results, Tryd.results17, go_sem, hc2, hz2]) rfl ⟨rfl, ((((((bl_alloc hb2).setCell (Nat.le_refl _) _).setCell (Nat.le_refl _) _).setCell (Nat.le_refl _) _).setCell (Nat.le_refl _) _).setCell (Nat.le_refl _) _)⟩
set_option maxRecDepth 100000 in
set_option maxHeartbeats 1000000 in
theorem zzconvert_still (v v' : Value) (code : Int) (H : Still 31 #[v, .int .i64 code] (.tuple #[v', .nilIface])) : Still 23 #[v, .int .i64 code] (.tuple #[v', .nilIface]) := by
  intro w
  go_enter Tryd.func23, Tryd.ntmps23
  go_wp2_with (go_at_call 31; refine (H _).mono ?_; rintro e w1 ⟨rfl, rfl⟩)
  go_ret2
  exact ⟨rfl, rfl⟩
theorem iconv_blob (g : Addr) (s : ByteArray) (cap : Nat) : GivesAt (Blob g s) 17 #[.iface 43 (.slice (some g) s.size cap), .int .i64 66] (.tuple #[V KBlob 0 0 0 s, .int .i64 0]) :=
  iconv_at (blob_lasting g s) _ _ 66 rfl _ _ _ _ _ (zzconvert_still _ _ _ (cv_blob_blob (some g) s.size cap)) (told_at (blob_lasting g s) _ _ _ _ _ _ (out_blob g s cap))
set_option maxRecDepth 100000 in
set_option maxHeartbeats 1000000 in
theorem convert_blob (n u : Int) (f : Nat) (s : ByteArray) : Gives 11 #[V KBlob n u f s, .string KBlob] (.tuple #[V KBlob 0 0 0 s, .int .i64 0]) := by
  intro w
  have b1 := @st_float
  go_enter Tryd.func11, Tryd.ntmps11
  go_wp2_with fail
  refine (in_blob n u f s _).mono ?_
  rintro e w1 ⟨g, cap, rfl, hB, hb⟩
  obtain ⟨hc, hf⟩ := bcell hb
  have hz : w.heap.size + 1 < w1.heap.size := by have := hb.size; simp at this; omega
  go_wp2_with (first | (go_at_call 19; refine (ztype_blob _).mono ?_; rintro e w2 ⟨rfl, rfl⟩) | (go_at_call 17; refine (iconv_blob g s cap _ hB).mono ?_; clear hB; rintro e w2 ⟨rfl, hb2⟩; obtain ⟨hc2, hf2⟩ := bcell hb2; have hz2 : w.heap.size + 1 < w2.heap.size := (by have := hb2.size; omega)))
  have hbb : Below w.heap.size w w2 := bl_trans (((((Below.refl _ _).alloc (Nat.le_refl _) _).alloc (by simp) _)).trans (hb.mono (by simp; omega))) hb2
  exact bodyPost_ret (v := .tuple #[V KBlob 0 0 0 s, .int .i64 0]) (by simp [results, Tryd.results11, go_sem, hc, hz, hc2, hz2]) rfl ⟨rfl, (((((hbb.setCell (by simp) _).setCell (by simp) _).setCell (by simp) _).setCell (by simp) _).setCell (by simp) _)⟩
end Go.Proofs.YtliopnbkpdfngaaDoor
