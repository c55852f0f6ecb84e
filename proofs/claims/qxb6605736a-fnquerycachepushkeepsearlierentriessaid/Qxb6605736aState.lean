import Derived.Test.Qxb6605736aSet
import Derived.Test.Qxb6605736aBits
namespace Go.Proofs.Qxb6605736a
open Go.RowKit

/-! ### What a call on the list at block 'sb', whose bytes lie in block 'g', may turn. -/
structure Fr (sb g : Nat) (w w' : World) : Prop where
  os : w'.os = w.os
  tape : w'.tape = w.tape
  output : w'.output = w.output
  size : w.heap.size ≤ w'.heap.size
  block : ∀ k, k < w.heap.size → k ≠ sb → k ≠ g → w'.heap[k]? = w.heap[k]?
  rest : ∀ j, 4 ≤ j → w'.cell? ⟨sb, j, none⟩ = w.cell? ⟨sb, j, none⟩

theorem Fr.refl (sb g : Nat) (w : World) : Fr sb g w w := ⟨rfl, rfl, rfl, Nat.le_refl _, fun _ _ _ _ => rfl, fun _ _ => rfl⟩
theorem Fr.trans {sb g g' : Nat} {a b c : World} (h : Fr sb g a b) (k : Fr sb g' b c) (hg : g' = g ∨ a.heap.size ≤ g') : Fr sb g a c :=
  ⟨k.os.trans h.os, k.tape.trans h.tape, k.output.trans h.output, Nat.le_trans h.size k.size,
   fun i hi h1 h2 => (k.block i (Nat.lt_of_lt_of_le hi h.size) h1 (by omega)).trans (h.block i hi h1 h2), fun j hj => (k.rest j hj).trans (h.rest j hj)⟩
theorem Fr.of_below {sb g : Nat} {w w' : World} (h : Below w.heap.size w w') (hs : sb < w.heap.size) : Fr sb g w w' :=
  ⟨h.os, h.tape, h.output, h.size, fun k hk _ _ => h.block k hk, fun j _ => h.cell (p := ⟨sb, j, none⟩) hs⟩
theorem Fr.below {sb g B : Nat} {w w' : World} (h : Fr sb g w w') (h1 : B ≤ sb) (h2 : B ≤ g) (h3 : B ≤ w.heap.size) : Below B w w' :=
  ⟨h.os, h.tape, h.output, h.size, fun k hk => h.block k (by omega) (by omega) (by omega)⟩
theorem Fr.cell {sb g : Nat} {w w' : World} (h : Fr sb g w w') {a : Addr} {v : Value} (hv : w.cell? a = some v) (h1 : a.block ≠ sb) (h2 : a.block ≠ g) : w'.cell? a = some v :=
  (World.cell?_of_block (h.block a.block (World.block_lt_of_cell? _ _ hv) h1 h2)).trans hv

/-- The bytes of block g, by a function. -/
def Row (w : World) (g cap : Nat) (bs : Nat → Nat) : Prop :=
  ∀ j, j < cap → w.cell? ⟨g, j, none⟩ = some (.int .u8 (bs j : Nat)) ∧ w.frozen? ⟨g, j, none⟩ = false ∧ bs j < 256

/-- The list's own four cells. -/
structure Hdr (w : World) (sb : Nat) (v : Value) (n wd m : Nat) : Prop where
  c0 : w.cell? ⟨sb, 0, none⟩ = some v
  c1 : w.cell? ⟨sb, 1, none⟩ = some (.int .i64 n)
  c2 : w.cell? ⟨sb, 2, none⟩ = some (.int .i64 wd)
  c3 : w.cell? ⟨sb, 3, none⟩ = some (.int .u32 m)
  f : ∀ j, w.frozen? ⟨sb, j, none⟩ = false

theorem Row.later {w w' : World} {g cap : Nat} {bs : Nat → Nat} (h : Row w g cap bs) (hb : Below w.heap.size w w') : Row w' g cap bs := fun j hj =>
  ⟨cell_later hb (h j hj).1, fro_later hb (h j hj).1 (h j hj).2.1, (h j hj).2.2⟩
theorem Hdr.lt {w : World} {sb : Nat} {v : Value} {n wd m : Nat} (h : Hdr w sb v n wd m) : sb < w.heap.size := World.block_lt_of_cell? _ _ h.c0
theorem Row.lt {w : World} {g cap : Nat} {bs : Nat → Nat} (h : Row w g cap bs) (hc : 0 < cap) : g < w.heap.size := World.block_lt_of_cell? _ _ (h 0 hc).1
theorem Hdr.later {w w' : World} {sb : Nat} {v : Value} {n wd m : Nat} (h : Hdr w sb v n wd m) (hb : Below w.heap.size w w') : Hdr w' sb v n wd m :=
  ⟨cell_later hb h.c0, cell_later hb h.c1, cell_later hb h.c2, cell_later hb h.c3, fun j => (hb.frozen (p := ⟨sb, j, none⟩) h.lt).trans (h.f j)⟩

/-- The number that the first k bytes from o on spell, the least first. -/
def leV (bs : Nat → Nat) (o : Nat) : Nat → Nat
  | 0 => 0
  | k + 1 => leV bs o k + bs (o + k) * 256 ^ k

/-- p's wd bytes laid from lo on. -/
def setB (bs : Nat → Nat) (lo wd p : Nat) : Nat → Nat := fun j => if lo ≤ j ∧ j < lo + wd then p / 256 ^ (j - lo) % 256 else bs j

def msk (wd : Nat) : Nat := 2 ^ (8 * wd) - 1

theorem wd_cases {wd : Nat} (h1 : 1 ≤ wd) (h2 : wd ≤ 4) : wd = 1 ∨ wd = 2 ∨ wd = 3 ∨ wd = 4 := by omega

/-- What 'at' answers. -/
theorem at_val (bs : Nat → Nat) (lo wd : Nat) (h1 : 1 ≤ wd) (h2 : wd ≤ 4) (b0 : bs lo < 256) (b1 : bs (lo + 1) < 256) (b2 : bs (lo + 2) < 256) (b3 : bs (lo + 3) < 256) :
    bits .and .u32 ((bs lo : Int) + bs (lo + 1) * 256 + bs (lo + 2) * 65536 + bs (lo + 3) * 16777216) (msk wd : Nat) = (leV bs lo wd : Nat) := by
  have e : ((bs lo : Int) + bs (lo + 1) * 256 + bs (lo + 2) * 65536 + bs (lo + 3) * 16777216) = ((bs lo + bs (lo + 1) * 256 + bs (lo + 2) * 65536 + bs (lo + 3) * 16777216 : Nat) : Int) := by omega
  rw [e]
  unfold msk
  rw [and_mask (8 * wd) _ (by omega) (by omega)]
  rcases wd_cases h1 h2 with rfl | rfl | rfl | rfl <;> simp only [leV, Nat.add_zero] <;> omega

theorem cell_set1 {w : World} {g o j : Nat} {v x : Value} (h : w.cell? ⟨g, j, none⟩ = some x) : (w.setCell ⟨g, o, none⟩ v).cell? ⟨g, j, none⟩ = some (if j = o then v else x) := by
  by_cases e : j = o
  · subst e; rw [if_pos rfl]; exact World.cell?_setCell_same _ _ _ h
  · rw [if_neg e, World.cell?_setCell_other _ _ _ _ (fun q => e (by injection q with _ q2 _; exact q2.symm))]; exact h

theorem cell_put4_at (w : World) (g o : Nat) (v : Int) (j : Nat) {x : Value} (h : w.cell? ⟨g, j, none⟩ = some x)  :
    (put4 w g o v).cell? ⟨g, j, none⟩ = some (if j = o + 3 then .int .u8 (v / 16777216) else if j = o + 2 then .int .u8 (v / 65536 % 256) else if j = o + 1 then .int .u8 (v / 256 % 256) else if j = o then .int .u8 (v % 256) else x) :=
  cell_set1 (cell_set1 (cell_set1 (cell_set1 (cell_al (.cells #[] 64) h))))

theorem frozen_put4 (w : World) (g o : Nat) (v : Int) (a : Addr) : (put4 w g o v).frozen? a = w.frozen? a := by
  unfold put4
  rw [World.frozen?_setCell, World.frozen?_setCell, World.frozen?_setCell, World.frozen?_setCell, frozen?_alloc_cells]

theorem put4_block (w : World) (g o : Nat) (v : Int) (k : Nat) (hk : k < w.heap.size) (hg : k ≠ g) : (put4 w g o v).heap[k]? = w.heap[k]? := by
  unfold put4
  rw [Below.heap_setCell _ _ _ _ hg, Below.heap_setCell _ _ _ _ hg, Below.heap_setCell _ _ _ _ hg, Below.heap_setCell _ _ _ _ hg, Below.heap_alloc _ _ _ hk]
theorem put4_size (w : World) (g o : Nat) (v : Int) : (put4 w g o v).heap.size = w.heap.size + 1 := by simp [put4]

theorem fr_put4 {sb g : Nat} (w : World) (o : Nat) (v : Int) (hne : sb ≠ g) (hs : sb < w.heap.size) : Fr sb g w (put4 w g o v) :=
  ⟨rfl, rfl, rfl, by rw [put4_size]; omega, fun k hk _ h2 => put4_block w g o v k hk h2, fun _ _ => World.cell?_of_block (put4_block w g o v sb hs hne)⟩

/-- The bytes behind a 'set'. -/
theorem set_bytes (bs : Nat → Nat) (lo wd p j : Nat) (h1 : 1 ≤ wd) (h2 : wd ≤ 4) (hp : p < 2 ^ (8 * wd)) (V : Nat)
    (b0 : bs lo < 256) (b1 : bs (lo + 1) < 256) (b2 : bs (lo + 2) < 256) (b3 : bs (lo + 3) < 256)
    (hV : V = (bs lo + bs (lo + 1) * 256 + bs (lo + 2) * 65536 + bs (lo + 3) * 16777216) / 2 ^ (8 * wd) * 2 ^ (8 * wd) + p) :
    (if j = lo + 3 then Value.int .u8 ((V : Int) / 16777216) else if j = lo + 2 then .int .u8 ((V : Int) / 65536 % 256) else if j = lo + 1 then .int .u8 ((V : Int) / 256 % 256) else if j = lo then .int .u8 ((V : Int) % 256) else .int .u8 (bs j : Nat)) = .int .u8 (setB bs lo wd p j : Nat) := by
  have key : ∀ a b : Int, a = b → Value.int .u8 a = Value.int .u8 b := fun a b h => by rw [h]
  unfold setB
  split
  · next e =>
    subst e
    refine key _ _ ?_
    have e3 : lo + 3 - lo = 3 := by omega
    rw [e3]
    rcases wd_cases h1 h2 with rfl | rfl | rfl | rfl <;> simp only [Nat.reduceMul, Nat.reducePow] at hp hV <;> (first | rw [if_pos (by omega)] | rw [if_neg (by omega)]) <;> omega
  · split
    · next e =>
      subst e
      refine key _ _ ?_
      have e3 : lo + 2 - lo = 2 := by omega
      rw [e3]
      rcases wd_cases h1 h2 with rfl | rfl | rfl | rfl <;> simp only [Nat.reduceMul, Nat.reducePow] at hp hV <;> (first | rw [if_pos (by omega)] | rw [if_neg (by omega)]) <;> omega
    · split
      · next e =>
        subst e
        refine key _ _ ?_
        have e3 : lo + 1 - lo = 1 := by omega
        rw [e3]
        rcases wd_cases h1 h2 with rfl | rfl | rfl | rfl <;> simp only [Nat.reduceMul, Nat.reducePow] at hp hV <;> (first | rw [if_pos (by omega)] | rw [if_neg (by omega)]) <;> omega
      · split
        · next e =>
          subst e
          refine key _ _ ?_
          rw [Nat.sub_self]
          rcases wd_cases h1 h2 with rfl | rfl | rfl | rfl <;> simp only [Nat.reduceMul, Nat.reducePow] at hp hV <;> rw [if_pos (by omega)] <;> omega
        · rw [if_neg (by omega)]

theorem setB_lt (bs : Nat → Nat) (lo wd p j : Nat) (h : bs j < 256) : setB bs lo wd p j < 256 := by
  unfold setB; split
  · exact Nat.mod_lt _ (by omega)
  · exact h
end Go.Proofs.Qxb6605736a
