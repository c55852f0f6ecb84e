import Derived.Test.Qxb6605736aAt
namespace Go.Proofs.Qxb6605736a
open Go.RowKit

theorem cell_put4 (w : World) (g o : Nat) (v : Int) (a : Addr) {x : Value} (hne : a.block ≠ g) (h : w.cell? a = some x) : (put4 w g o v).cell? a = some x := by
  unfold put4
  rw [World.cell?_setCell_other _ _ _ _ (fun e => hne (by rw [← e])), World.cell?_setCell_other _ _ _ _ (fun e => hne (by rw [← e])), World.cell?_setCell_other _ _ _ _ (fun e => hne (by rw [← e])), World.cell?_setCell_other _ _ _ _ (fun e => hne (by rw [← e]))]
  exact cell_al _ h

theorem fro_later {w wx : World} {a : Addr} {v : Value} (hb : Below w.heap.size w wx) (h : w.cell? a = some v) (f : w.frozen? a = false) : wx.frozen? a = false := (hb.frozen (World.block_lt_of_cell? _ _ h)).trans f

set_option maxHeartbeats 1600000 in
theorem set_raw (sb g lo i wd L cap : Nat) (m p V : Int) (b0 b1 b2 b3 : Nat) (w : World) (hlo : (i : Int) * (wd : Int) = (lo : Int)) (h4 : lo + 4 ≤ L) (hL : L ≤ cap) (hc : cap ≤ 9223372036854775807)
    (hV : bits .or .u32 (bits .andNot .u32 ((b0 : Int) + b1 * 256 + b2 * 65536 + b3 * 16777216) m) p = V) (hV0 : 0 ≤ V) (hV1 : V < 4294967296)
    (h0 : b0 < 256) (h1 : b1 < 256) (h2 : b2 < 256) (h3 : b3 < 256)
    (s0 : w.cell? ⟨sb, 0, none⟩ = some (.slice (some ⟨g, 0, none⟩) L cap)) (s2 : w.cell? ⟨sb, 2, none⟩ = some (.int .i64 wd)) (s3 : w.cell? ⟨sb, 3, none⟩ = some (.int .u32 m))
    (c0 : w.cell? ⟨g, lo, none⟩ = some (.int .u8 b0)) (c1 : w.cell? ⟨g, lo + 1, none⟩ = some (.int .u8 b1)) (c2 : w.cell? ⟨g, lo + 2, none⟩ = some (.int .u8 b2)) (c3 : w.cell? ⟨g, lo + 3, none⟩ = some (.int .u8 b3))
    (f0 : w.frozen? ⟨g, lo, none⟩ = false) (f1 : w.frozen? ⟨g, lo + 1, none⟩ = false) (f2 : w.frozen? ⟨g, lo + 2, none⟩ = false) (f3 : w.frozen? ⟨g, lo + 3, none⟩ = false) (hne : sb ≠ g) :
    Calls Try.prog 30 #[.pointer (some ⟨sb, 0, none⟩), .int .i64 i, .int .u32 p] w fun e w' => e = .returned (.tuple #[]) ∧ ∃ w1, Below w.heap.size w w1 ∧
      w' = put4 w1 g lo V := by
  have n4 : ¬ cap = lo := by omega
  have k1 : IntKind.i64.wrap ((i : Int) * (wd : Int)) = (lo : Int) := by rw [hlo, IntKind.wrap_i64]; omega
  have k2 : (lo : Int) ≤ (L : Int) := by omega
  have k3 : (L : Int) ≤ (cap : Int) := by omega
  have k4 : (0 : Int) ≤ (lo : Int) := by omega
  have k5 : IntKind.i64.wrap (lo : Int) = (lo : Int) := by rw [IntKind.wrap_i64]; omega
  go_enter Try.func30, Try.ntmps30
  go_wp2
  go_quiet (fail)
  go_wp2
  have u := u32_any g lo (L - lo) (cap - lo) b0 b1 b2 b3 (w.drewN nq).drew (by omega) h0 h1 h2 h3 c0 c1 c2 c3
  go_region_held3 (fun w' => w'.cell? ⟨sb, 3, none⟩ = some (.int .u32 m))
    (first | exact s3 | exact cell_later hb s3 | exact hs)
    (first | (go_at_call 31; refine u.mono ?_; rintro e w' ⟨rfl, hb'⟩; have hb : Below w.heap.size w w' := ⟨hb'.os, hb'.tape, hb'.output, hb'.size, hb'.block⟩) | (go_at_call 35; refine (put_any g lo (L - lo) (cap - lo) V hV0 hV1 _ _ _ _ w' (by omega) (cell_later hb c0) (cell_later hb c1) (cell_later hb c2) (cell_later hb c3) (fro_later hb c0 f0) (fro_later hb c1 f1) (fro_later hb c2 f2) (fro_later hb c3 f3)).mono ?_; rintro e w'' ⟨rfl, hw''⟩; have hs : w''.cell? ⟨sb, 3, none⟩ = some (.int .u32 m) := (by rw [hw''.out]; exact (cell_put4 w' g lo V ⟨sb, 3, none⟩ hne (cell_later hb s3)))))
  go_wp2
  go_end0
  exact ⟨rfl, w', hb, hw''.out⟩
end Go.Proofs.Qxb6605736a
