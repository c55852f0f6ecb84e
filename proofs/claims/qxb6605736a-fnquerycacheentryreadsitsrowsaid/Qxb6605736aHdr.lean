import Derived.Test.Qxb6605736aNice
import Derived.Deep.OwnRows
namespace Go.Proofs.Qxb6605736a
open Go.RowKit

section
variable {w : World} {sb : Nat} {v : Value} {n wd m : Nat}

theorem cell_set_at {j i : Nat} {x u : Value} (h : w.cell? ⟨sb, j, none⟩ = some u) (hne : j ≠ i) : (w.setCell ⟨sb, i, none⟩ x).cell? ⟨sb, j, none⟩ = some u := by
  rw [cell_set1 h, if_neg hne]
theorem cell_set_same {j : Nat} {x u : Value} (h : w.cell? ⟨sb, j, none⟩ = some u) : (w.setCell ⟨sb, j, none⟩ x).cell? ⟨sb, j, none⟩ = some x := by
  rw [cell_set1 h, if_pos rfl]

theorem Hdr.set0 (H : Hdr w sb v n wd m) (x : Value) : Hdr (w.setCell ⟨sb, 0, none⟩ x) sb x n wd m :=
  ⟨cell_set_same H.c0, cell_set_at H.c1 (by decide), cell_set_at H.c2 (by decide), cell_set_at H.c3 (by decide), fun j => by rw [World.frozen?_setCell]; exact H.f j⟩
theorem Hdr.set1 (H : Hdr w sb v n wd m) (x : Nat) : Hdr (w.setCell ⟨sb, 1, none⟩ (.int .i64 x)) sb v x wd m :=
  ⟨cell_set_at H.c0 (by decide), cell_set_same H.c1, cell_set_at H.c2 (by decide), cell_set_at H.c3 (by decide), fun j => by rw [World.frozen?_setCell]; exact H.f j⟩
theorem Hdr.set2 (H : Hdr w sb v n wd m) (x : Nat) : Hdr (w.setCell ⟨sb, 2, none⟩ (.int .i64 x)) sb v n x m :=
  ⟨cell_set_at H.c0 (by decide), cell_set_at H.c1 (by decide), cell_set_same H.c2, cell_set_at H.c3 (by decide), fun j => by rw [World.frozen?_setCell]; exact H.f j⟩
theorem Hdr.set3 (H : Hdr w sb v n wd m) (x : Nat) : Hdr (w.setCell ⟨sb, 3, none⟩ (.int .u32 x)) sb v n wd x :=
  ⟨cell_set_at H.c0 (by decide), cell_set_at H.c1 (by decide), cell_set_at H.c2 (by decide), cell_set_same H.c3, fun j => by rw [World.frozen?_setCell]; exact H.f j⟩
theorem Hdr.alloc (H : Hdr w sb v n wd m) (o : Obj) : Hdr (w.alloc o) sb v n wd m := H.later ((Below.refl _ _).alloc (Nat.le_refl _) _)
theorem Hdr.drew (H : Hdr w sb v n wd m) : Hdr w.drew sb v n wd m := ⟨H.c0, H.c1, H.c2, H.c3, H.f⟩
/-- A store into another block. -/
theorem Hdr.far (H : Hdr w sb v n wd m) {a : Addr} (x : Value) (hne : sb ≠ a.block) : Hdr (w.setCell a x) sb v n wd m := by
  have k : ∀ j u, w.cell? ⟨sb, j, none⟩ = some u → (w.setCell a x).cell? ⟨sb, j, none⟩ = some u := fun j u h => by
    rw [World.cell?_setCell_other _ _ _ _ (fun e => hne (by rw [e]))]; exact h
  exact ⟨k _ _ H.c0, k _ _ H.c1, k _ _ H.c2, k _ _ H.c3, fun j => by rw [World.frozen?_setCell]; exact H.f j⟩
/-- A block that has just been laid with a list's four cells. -/
theorem Hdr.made (w : World) (v : Value) (n wd m : Nat) (t : TypeId) : Hdr (w.alloc (.cells #[v, .int .i64 n, .int .i64 wd, .int .u32 m] t)) w.heap.size v n wd m :=
  ⟨by simp, by simp, by simp, by simp, fun j => by simp⟩
theorem Hdr.of_fr {w' : World} {sb' g : Nat} (H : Hdr w sb v n wd m) (h : Fr sb' g w w') (h1 : sb ≠ sb') (h2 : sb ≠ g) : Hdr w' sb v n wd m :=
  ⟨h.cell H.c0 h1 h2, h.cell H.c1 h1 h2, h.cell H.c2 h1 h2, h.cell H.c3 h1 h2, fun j => (World.frozen?_of_block (h.block sb H.lt h1 h2)).trans (H.f j)⟩

theorem Fr.alloc {g : Nat} (hs : sb < w.heap.size) (o : Obj) : Fr sb g w (w.alloc o) := Fr.of_below ((Below.refl _ _).alloc (Nat.le_refl _) _) hs
theorem Fr.set {g j : Nat} (x : Value) (hj : j < 4) : Fr sb g w (w.setCell ⟨sb, j, none⟩ x) :=
  ⟨rfl, rfl, rfl, by simp, fun k _ h1 _ => Below.heap_setCell _ _ _ _ h1, fun i hi => World.cell?_setCell_other _ _ _ _ (fun e => by injection e with _ e2 _; omega)⟩
theorem Fr.drew {g : Nat} {w' : World} (h : Fr sb g w w') : Fr sb g w w'.drew := ⟨h.os, h.tape, h.output, h.size, h.block, h.rest⟩
end

theorem Row.alloc {w : World} {g cap : Nat} {bs : Nat → Nat} (h : Row w g cap bs) (o : Obj) : Row (w.alloc o) g cap bs := h.later ((Below.refl _ _).alloc (Nat.le_refl _) _)
theorem Row.drew {w : World} {g cap : Nat} {bs : Nat → Nat} (h : Row w g cap bs) : Row w.drew g cap bs := h
theorem Row.far {w : World} {g cap : Nat} {bs : Nat → Nat} (h : Row w g cap bs) {a : Addr} (x : Value) (hne : g ≠ a.block) : Row (w.setCell a x) g cap bs := fun j hj => by
  obtain ⟨h1, h2, h3⟩ := h j hj
  refine ⟨?_, by rw [World.frozen?_setCell]; exact h2, h3⟩
  rw [World.cell?_setCell_other _ _ _ _ (fun e => hne (by rw [e]))]; exact h1
theorem Row.of_fr {w w' : World} {sb g g' cap : Nat} {bs : Nat → Nat} (h : Row w g cap bs) (hf : Fr sb g' w w') (h1 : g ≠ sb) (h2 : g ≠ g') : Row w' g cap bs := fun j hj => by
  obtain ⟨a, b, c⟩ := h j hj
  exact ⟨hf.cell a h1 h2, (World.frozen?_of_block (hf.block g (World.block_lt_of_cell? _ _ a) h1 h2)).trans b, c⟩
theorem Row.made (w : World) (L : Nat) : Row (w.alloc (.cells (madeCells #[.int .u8 0] L) 5)) w.heap.size L (fun _ => 0) := fun j hj => by
  refine ⟨?_, by simp, by show (0 : Nat) < 256; decide⟩
  rw [World.cell?_alloc_new]
  simp [madeCells, hj, Nat.mod_one]
end Go.Proofs.Qxb6605736a
