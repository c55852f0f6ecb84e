import Derived.Test.Qxb6605736aRows
import Derived.WalkKit
import Derived.WalkSpells
import Derived.WalkLawsBesides
import Derived.RegionTactic
import Derived.BigQuiet
import Derived.Lib.Walk
import Derived.Lib.EndianBits
import Derived.Deep.Draws
import Derived.Below
import Derived.Outline
namespace Go.Proofs.Qxb6605736a
open Go.RowKit

theorem Try.cells64 : Try.prog.cellsOf 64 = 0 := by kernel_rfl
theorem cell_al {W : World} {a : Addr} {v : Value} (o : Obj) (h : W.cell? a = some v) : (W.alloc o).cell? a = some v :=
  (World.cell?_alloc_lt _ _ _ (World.block_lt_of_cell? _ _ h)).trans h

theorem ret_int {k : IntKind} {a b : Int} (h : a = b) : Ending.returned (.int k a) = .returned (.int k b) := by rw [h]

set_option maxHeartbeats 800000 in
/-- binary.LittleEndian.Uint32. -/
theorem u32_any (g o n c b0 b1 b2 b3 : Nat) (w : World) (hn : 4 ≤ n) (h0 : b0 < 256) (h1 : b1 < 256) (h2 : b2 < 256) (h3 : b3 < 256)
    (c0 : w.cell? ⟨g, o, none⟩ = some (.int .u8 b0)) (c1 : w.cell? ⟨g, o + 1, none⟩ = some (.int .u8 b1)) (c2 : w.cell? ⟨g, o + 2, none⟩ = some (.int .u8 b2)) (c3 : w.cell? ⟨g, o + 3, none⟩ = some (.int .u8 b3)) :
    Calls Try.prog 31 #[.agg #[], .slice (some ⟨g, o, none⟩) n c] w fun e w' => e = .returned (.int .u32 ((b0 : Int) + b1 * 256 + b2 * 65536 + b3 * 16777216)) ∧ Below w.heap.size w w' := by
  have d0 := cell_al (.cells #[] 64) c0
  have d1 := cell_al (.cells #[] 64) c1
  have d2 := cell_al (.cells #[] 64) c2
  have d3 := cell_al (.cells #[] 64) c3
  go_enter Try.func31, Try.ntmps31
  go_wp2
  go_quiet (fail)
  go_wp2
  go_ret
  refine ⟨?_, below_drewN ((Below.refl _ w).alloc (Nat.le_refl _) _) _⟩
  refine ret_int ?_
  simp (disch := omega) only [u32_or8, u32_or16, u32_or24]

/-- What PutUint32 leaves. -/
def put4 (w : World) (g o : Nat) (v : Int) : World :=
  ((((w.alloc (.cells #[] 64)).setCell ⟨g, o, none⟩ (.int .u8 (v % 256))).setCell ⟨g, o + 1, none⟩ (.int .u8 (v / 256 % 256))).setCell ⟨g, o + 2, none⟩ (.int .u8 (v / 65536 % 256))).setCell ⟨g, o + 3, none⟩ (.int .u8 (v / 16777216))

set_option maxHeartbeats 800000 in
theorem put_any (g o n c : Nat) (v : Int) (hv0 : 0 ≤ v) (hv : v < 4294967296) (x0 x1 x2 x3 : Value) (w : World) (hn : 4 ≤ n)
    (c0 : w.cell? ⟨g, o, none⟩ = some x0) (c1 : w.cell? ⟨g, o + 1, none⟩ = some x1) (c2 : w.cell? ⟨g, o + 2, none⟩ = some x2) (c3 : w.cell? ⟨g, o + 3, none⟩ = some x3)
    (f0 : w.frozen? ⟨g, o, none⟩ = false) (f1 : w.frozen? ⟨g, o + 1, none⟩ = false) (f2 : w.frozen? ⟨g, o + 2, none⟩ = false) (f3 : w.frozen? ⟨g, o + 3, none⟩ = false) :
    Calls Try.prog 35 #[.agg #[], .slice (some ⟨g, o, none⟩) n c, .int .u32 v] w fun e w' => e = .returned (.tuple #[]) ∧
      Hid (w' = put4 w g o v) := by
  have d0 := cell_al (.cells #[] 64) c0
  have d1 := cell_al (.cells #[] 64) c1
  have d2 := cell_al (.cells #[] 64) c2
  have d3 := cell_al (.cells #[] 64) c3
  have fa0 := (frozen?_alloc_cells w #[] 64 ⟨g, o, none⟩).trans f0
  have fa1 := (frozen?_alloc_cells w #[] 64 ⟨g, o + 1, none⟩).trans f1
  have fa2 := (frozen?_alloc_cells w #[] 64 ⟨g, o + 2, none⟩).trans f2
  have fa3 := (frozen?_alloc_cells w #[] 64 ⟨g, o + 3, none⟩).trans f3
  go_enter Try.func35, Try.ntmps35
  go_wp2
  go_end0
  exact ⟨rfl, rfl⟩
end Go.Proofs.Qxb6605736a
