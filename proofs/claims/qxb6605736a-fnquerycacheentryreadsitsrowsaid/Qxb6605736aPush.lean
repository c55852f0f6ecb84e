import Derived.Test.Qxb6605736aFitAll
import Derived.Deep.RegionLaw
namespace Go.Proofs.Qxb6605736a
open Go.RowKit Go.Deep

theorem cell_grown {w w' : World} {g : Nat} (h : w.grownBy w' (some g)) {a : Addr} {v : Value} (hc : w.cell? a = some v) (hne : a.block ≠ g) : w'.cell? a = some v :=
  h.cell hc (fun e => hne (Option.some.inj e))
theorem hdr_grown {w w' : World} {sb g : Nat} {v : Value} {n wd m : Nat} (h : w.grownBy w' (some g)) (H : Hdr w sb v n wd m) (hne : sb ≠ g) : Hdr w' sb v n wd m :=
  ⟨cell_grown h H.c0 hne, cell_grown h H.c1 hne, cell_grown h H.c2 hne, cell_grown h H.c3 hne, fun j => (World.frozen?_of_block (h.block sb H.lt (fun e => hne (Option.some.inj e)))).trans (H.f j)⟩

theorem fr_grown {w w' : World} {sb g : Nat} (h : w.grownBy w' (some g)) (hlt : sb < w.heap.size) (hne : sb ≠ g) : Fr sb g w w' :=
  ⟨h.os, h.tape, h.output, h.size, fun k hk _ h2 => h.block k hk (fun e => h2 (Option.some.inj e)), fun _ _ => World.cell?_of_block (h.block sb hlt (fun e => hne (Option.some.inj e)))⟩

theorem push_post {w w1 w2 w5 : World} {sb n W g0 g g' cap' L p : Nat} {bs bs' xs : Nat → Nat} {x y : Value} (happ : App w1.drew g L W bs g' cap' w2 bs') (hlt : sb < w1.heap.size) (hne : sb ≠ g) (hgg : sb ≠ g')
    (F1 : Fr sb g0 w w1) (hg : g = g0 ∨ w.heap.size ≤ g) (hL : n * W + 3 = L) (hc : ∀ i, i < n → leV bs (i * W) W = xs i)
    (H5 : Hdr w5 sb (.slice (some ⟨g', 0, none⟩) (L + W) cap') (n + 1) W (msk W)) (R5 : Row w5 g' cap' (setB bs' (n * W) W p)) (F5 : Fr sb g' ((w2.setCell ⟨sb, 0, none⟩ x).setCell ⟨sb, 1, none⟩ y) w5)
    (h1 : 1 ≤ W) (h4 : W ≤ 4) (hp : p ≤ msk W) :
    ∃ g, LL w5 sb (n + 1) W g (fun i => if i < n then xs i else p) ∧ Fr sb g0 w w5 ∧ (g = g0 ∨ w.heap.size ≤ g) := by
  have e : (n + 1) * W + 3 = L + W := by rw [Nat.add_mul]; omega
  have hs := F1.size
  have hg' : g' = g ∨ w1.heap.size ≤ g' := by rcases happ.lies with h | h; exact .inl h; exact .inr (by rw [h]; exact Nat.le_refl _)
  have F2 : Fr sb g w1 w2 := by
    have h := fr_grown happ.grown (sb := sb) hlt hne
    exact ⟨h.os, h.tape, h.output, h.size, h.block, h.rest⟩
  have F4 : Fr sb g w1 ((w2.setCell ⟨sb, 0, none⟩ x).setCell ⟨sb, 1, none⟩ y) := (F2.trans (Fr.set (g := g) _ (by decide)) (.inl rfl)).trans (Fr.set (g := g) _ (by decide)) (.inl rfl)
  have F : Fr sb g w1 w5 := F4.trans F5 hg'
  refine ⟨g', .inr ⟨cap', _, ⟨by rw [e]; exact H5, R5, hgg, h1, h4, by rw [e]; exact happ.fits, happ.small⟩, fun i hi => ?_⟩, F1.trans F hg, by omega⟩
  dsimp only
  by_cases hin : i < n
  · rw [if_pos hin, leV_setB_far _ _ _ _ _ _ (.inl (mul_far i n W hin)), ← hc i hin]
    have := mul_far i n W hin
    exact leV_congr _ _ _ _ fun j hj => happ.same _ (by omega)
  · rw [if_neg hin]
    obtain rfl : i = n := by omega
    exact leV_setB_same _ _ _ _ h1 h4 hp

set_option maxHeartbeats 3200000 in
theorem push_all (sb n wd g0 p : Nat) (xs : Nat → Nat) (w : World) (h : LL w sb n wd g0 xs) (hp : p < 4294967296) (hn : n ≤ 199999) :
    Calls Try.prog 24 #[.pointer (some ⟨sb, 0, none⟩), .int .u32 p] w fun e w' => e = .returned (.tuple #[]) ∧
      ∃ g, LL w' sb (n + 1) (max wd (need p)) g (fun i => if i < n then xs i else p) ∧ Fr sb g0 w w' ∧ (g = g0 ∨ w.heap.size ≤ g) := by
  have hfit := fit_all sb n wd g0 p xs w h hp (by omega)
  generalize max wd (need p) = W at hfit ⊢
  go_enter Try.func24, Try.ntmps24
  go_wp2_with (go_at_call 29; refine hfit.mono ?_; rintro e w1 ⟨rfl, g, cap, bs, hL, hpW, hcont, F1, hg⟩)
  have HC : Hid (∀ i, i < n → leV bs (i * W) W = xs i) := hcont
  obtain ⟨H, R, hne, h1, h4, hf, hs⟩ := hL
  obtain ⟨c0, c1, c2, c3, f⟩ := id H
  have hW := Nat.mul_le_mul hn h4
  obtain ⟨L, hLe⟩ : ∃ L, n * W + 3 = L := ⟨_, rfl⟩
  rw [hLe] at c0 H hf
  have HE : Hid (n * W + 3 = L) := hLe
  have hLb : L ≤ 1000000 := by omega
  clear hLe hW hfit hcont h
  go_region_law (refine step_zeros rfl (.tmp 11) (.tmp 15) rfl g L cap W bs (by simp [Act.eval]) (by simp [Act.eval]) (by exact R) hf hs (by omega) (by omega) hLb ?_; intro g' cap' w2 bs' happ; have H2 := hdr_grown happ.grown H.drew hne; have e0 := H2.c0; have e1 := H2.c1; have ef := H2.f)
  all_goals
    have hgg : sb ≠ g' := by
      rcases happ.lies with h | h
      · rw [h]; exact hne
      · have := H.lt; rw [h]; show sb ≠ w1.heap.size; omega
    have H4 := (H2.set0 (.slice (some ⟨g', 0, none⟩) (L + W) cap')).set1 (n + 1)
    have R4 := (happ.row.far (a := ⟨sb, 0, none⟩) (.slice (some ⟨g', 0, none⟩) (L + W) cap') (fun e => hgg e.symm)).far (a := ⟨sb, 1, none⟩) (.int .i64 (n + 1 : Nat)) (fun e => hgg e.symm)
    have hset := set_nice sb g' n W (L + W) cap' (n + 1) p bs' _ H4 R4 hgg h1 h4 (by have := HE.out; omega) happ.fits happ.small hpW
    have e5 : ((n + 1 : Nat) : Int) = (n : Int) + 1 := by omega
    rw [e5] at hset
    clear e5 H4 R4
    go_wp2_with (go_at_call 30; refine hset.mono ?_; rintro e w5 ⟨rfl, H5, R5, F5⟩)
    go_end0
    exact ⟨rfl, push_post happ H.lt hne hgg F1 hg HE.out HC.out H5 R5 F5 h1 h4 hpW⟩
end Go.Proofs.Qxb6605736a
