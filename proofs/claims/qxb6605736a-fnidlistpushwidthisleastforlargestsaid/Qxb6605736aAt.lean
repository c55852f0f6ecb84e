import Derived.Test.Qxb6605736aLeaf
import Derived.Deep.RegionHeld3
namespace Go.Proofs.Qxb6605736a
open Go.RowKit

theorem below_of_drew {w w' : World} (hb : Below w.drew.heap.size w.drew w') : Below w.heap.size w w' := ⟨hb.os, hb.tape, hb.output, hb.size, hb.block⟩

set_option maxHeartbeats 1600000 in
theorem at_any (sb g lo i wd L cap : Nat) (m : Int) (b0 b1 b2 b3 : Nat) (w : World) (hlo : (i : Int) * (wd : Int) = (lo : Int)) (h4 : lo + 4 ≤ L) (hL : L ≤ cap) (hc : cap ≤ 9223372036854775807)
    (h0 : b0 < 256) (h1 : b1 < 256) (h2 : b2 < 256) (h3 : b3 < 256)
    (s0 : w.cell? ⟨sb, 0, none⟩ = some (.slice (some ⟨g, 0, none⟩) L cap)) (s2 : w.cell? ⟨sb, 2, none⟩ = some (.int .i64 wd)) (s3 : w.cell? ⟨sb, 3, none⟩ = some (.int .u32 m))
    (c0 : w.cell? ⟨g, lo, none⟩ = some (.int .u8 b0)) (c1 : w.cell? ⟨g, lo + 1, none⟩ = some (.int .u8 b1)) (c2 : w.cell? ⟨g, lo + 2, none⟩ = some (.int .u8 b2)) (c3 : w.cell? ⟨g, lo + 3, none⟩ = some (.int .u8 b3)) :
    Calls Try.prog 26 #[.pointer (some ⟨sb, 0, none⟩), .int .i64 i] w fun e w' => e = .returned (.int .u32 (bits .and .u32 ((b0 : Int) + b1 * 256 + b2 * 65536 + b3 * 16777216) m)) ∧ Below w.heap.size w w' := by
  have n4 : ¬ cap = lo := by omega
  have k1 : IntKind.i64.wrap ((i : Int) * (wd : Int)) = (lo : Int) := by rw [hlo, IntKind.wrap_i64]; omega
  have k2 : (lo : Int) ≤ (L : Int) := by omega
  have k3 : (L : Int) ≤ (cap : Int) := by omega
  have k4 : (0 : Int) ≤ (lo : Int) := by omega
  have k5 : IntKind.i64.wrap (lo : Int) = (lo : Int) := by rw [IntKind.wrap_i64]; omega
  have u := u32_any g lo (L - lo) (cap - lo) b0 b1 b2 b3 w.drew (by omega) h0 h1 h2 h3 c0 c1 c2 c3
  go_enter Try.func26, Try.ntmps26
  go_wp2
  go_region_held3 (fun w' => w'.cell? ⟨sb, 0, none⟩ = some (.slice (some ⟨g, 0, none⟩) L cap) ∧ w'.cell? ⟨sb, 2, none⟩ = some (.int .i64 wd) ∧ w'.cell? ⟨sb, 3, none⟩ = some (.int .u32 m))
    (first | exact ⟨s0, s2, s3⟩ | exact ⟨cell_later hb s0, cell_later hb s2, cell_later hb s3⟩)
    (first | (go_at_call 31; refine u.mono ?_; rintro e w' ⟨rfl, hb'⟩; have hb := below_of_drew hb'))
  go_wp2
  go_ret
  exact ⟨rfl, hb⟩
end Go.Proofs.Qxb6605736a
