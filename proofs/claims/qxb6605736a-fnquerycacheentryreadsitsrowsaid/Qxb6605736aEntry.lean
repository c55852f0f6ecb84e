import Derived.Test.Qxb6605736aCache
namespace Go.Proofs.Qxb6605736a
open Go.RowKit Go.Deep

/-- The cells that an entry's result variable is laid with. -/
def entZ : Obj := .cells #[.int .u32 0, .bool false, .int .i64 0, .int .i64 0, .int .i64 0, .int .i64 0, .int .i64 0] 45

theorem ent_cells {w w1 : World} (hb1 : Below (w.alloc entZ).drew.heap.size (w.alloc entZ).drew w1) : Below w.heap.size w w1 ∧
    w1.cell? ⟨w.heap.size, 0, none⟩ = some (.int .u32 0) ∧ w1.cell? ⟨w.heap.size, 1, none⟩ = some (.bool false) ∧ w1.cell? ⟨w.heap.size, 2, none⟩ = some (.int .i64 0) ∧ w1.cell? ⟨w.heap.size, 3, none⟩ = some (.int .i64 0) ∧
    w1.cell? ⟨w.heap.size, 4, none⟩ = some (.int .i64 0) ∧ w1.cell? ⟨w.heap.size, 5, none⟩ = some (.int .i64 0) ∧ w1.cell? ⟨w.heap.size, 6, none⟩ = some (.int .i64 0) ∧ ∀ j, w1.frozen? ⟨w.heap.size, j, none⟩ = false := by
  have hlt : w.heap.size < (w.alloc entZ).drew.heap.size := by show w.heap.size < (w.alloc entZ).heap.size; rw [World.size_alloc]; omega
  have hc : ∀ j, w1.cell? ⟨w.heap.size, j, none⟩ = (w.alloc entZ).cell? ⟨w.heap.size, j, none⟩ := fun j => hb1.cell (p := ⟨w.heap.size, j, none⟩) hlt
  have hf : ∀ j, w1.frozen? ⟨w.heap.size, j, none⟩ = (w.alloc entZ).frozen? ⟨w.heap.size, j, none⟩ := fun j => hb1.frozen (p := ⟨w.heap.size, j, none⟩) hlt
  unfold entZ at hc hf hb1
  refine ⟨(((Below.refl _ _).alloc (Nat.le_refl _) _).drew).trans (hb1.mono (by rw [World.size_drew, World.size_alloc]; omega)), ?_, ?_, ?_, ?_, ?_, ?_, ?_, fun j => ?_⟩
  · rw [hc, World.cell?_alloc_new]; rfl
  · rw [hc, World.cell?_alloc_new]; rfl
  · rw [hc, World.cell?_alloc_new]; rfl
  · rw [hc, World.cell?_alloc_new]; rfl
  · rw [hc, World.cell?_alloc_new]; rfl
  · rw [hc, World.cell?_alloc_new]; rfl
  · rw [hc, World.cell?_alloc_new]; rfl
  · rw [hf]; exact World.frozen?_alloc_new w _ _ j

set_option maxHeartbeats 3200000 in
theorem entry28 (qb g i wd L cap n : Nat) (bs : Nat → Nat) (lc f r : Int) (w : World) (H : Hdr w qb (.slice (some ⟨g, 0, none⟩) L cap) n wd (msk wd)) (R : Row w g cap bs)
    (h1 : 1 ≤ wd) (h2 : wd ≤ 4) (hL : i * wd + 4 ≤ L) (hc : L ≤ cap) (hm : cap ≤ maxLen) (C1 : Col w qb 4 i lc) (C2 : Col w qb 6 i f) (C3 : Col w qb 8 i r) :
    Calls Try.prog 28 #[.pointer (some ⟨qb, 0, none⟩), .int .i64 i] w fun e w' => e = .returned (ent (leV bs (i * wd) wd) lc f r) ∧ Below w.heap.size w w' := by
  have hA : Below w.heap.size w (w.alloc entZ).drew := ((Below.refl _ _).alloc (Nat.le_refl _) _).drew
  have hat := at_nice qb g i wd L cap n bs (w.alloc entZ).drew (H.later hA) (R.later hA) h1 h2 hL hc hm
  go_enter Try.func28, Try.ntmps28
  go_wp2
  go_region_held3 (fun _ => True) (trivial)
    (first
      | (go_at_call 26; refine hat.mono ?_; rintro e w1 ⟨rfl, hb1⟩; obtain ⟨hb, z0, z1, z2, z3, z4, z5, z6, zf⟩ := ent_cells hb1; have D1 := col32 qb 4 i lc w1 (C1.later hb); have D2 := col33 qb 6 i f w1 (C2.later hb); have D3 := col33 qb 8 i r w1 (C3.later hb))
      | (go_at_call 32; refine D1.mono ?_; rintro e w' ⟨rfl, hq⟩; obtain rfl := hq.symm)
      | (go_at_call_of 33 (some (⟨qb, 6, none⟩ : Addr)); refine D2.mono ?_; rintro e w' ⟨rfl, hq⟩; obtain rfl := hq.symm)
      | (go_at_call_of 33 (some (⟨qb, 8, none⟩ : Addr)); refine D3.mono ?_; rintro e w' ⟨rfl, hq⟩; obtain rfl := hq.symm))
  go_wp2
  refine bodyPost_ret (v := ent (leV bs (i * wd) wd) lc f r) (by simp [results, Try.results28, go_sem, ent, z0, z1, z2, z3, z4, z5, z6]) rfl ⟨rfl, ?_⟩
  exact ((((((hb.setCell (Nat.le_refl _) _).setCell (Nat.le_refl _) _).setCell (Nat.le_refl _) _).setCell (Nat.le_refl _) _).setCell (Nat.le_refl _) _).setCell (Nat.le_refl _) _).setCell (Nat.le_refl _) _

set_option maxHeartbeats 3200000 in
theorem entry21 (qb g i wd L cap n : Nat) (bs : Nat → Nat) (lc f r : Int) (w : World) (H : Hdr w qb (.slice (some ⟨g, 0, none⟩) L cap) n wd (msk wd)) (R : Row w g cap bs)
    (h1 : 1 ≤ wd) (h2 : wd ≤ 4) (hL : i * wd + 4 ≤ L) (hc : L ≤ cap) (hm : cap ≤ maxLen) (C1 : Col w qb 4 i lc) (C2 : Col w qb 6 i f) (C3 : Col w qb 8 i r) :
    Calls Try.prog 21 #[.pointer (some ⟨qb, 0, none⟩), .int .i64 i] w fun e w' => e = .returned (ent (leV bs (i * wd) wd) lc f r) ∧ Below w.heap.size w w' := by
  have hA : Below w.heap.size w (w.alloc entZ) := (Below.refl _ _).alloc (Nat.le_refl _) _
  have hat := entry28 qb g i wd L cap n bs lc f r (w.alloc entZ) (H.later hA) (R.later hA) h1 h2 hL hc hm (C1.later hA) (C2.later hA) (C3.later hA)
  generalize leV bs (i * wd) wd = P at hat ⊢
  unfold ent at hat
  go_enter Try.func21, Try.ntmps21
  go_wp2_with (go_at_call 28; refine hat.mono ?_; rintro e w1 ⟨rfl, hb1⟩; obtain ⟨hb, z0, z1, z2, z3, z4, z5, z6, zf⟩ := ent_cells ⟨hb1.os, hb1.tape, hb1.output, hb1.size, hb1.block⟩)
  refine bodyPost_ret (v := ent P lc f r) (by simp [results, Try.results21, go_sem, ent, z0, z1, z2, z3, z4, z5, z6]) rfl ⟨rfl, ?_⟩
  exact ((((((hb.setCell (Nat.le_refl _) _).setCell (Nat.le_refl _) _).setCell (Nat.le_refl _) _).setCell (Nat.le_refl _) _).setCell (Nat.le_refl _) _).setCell (Nat.le_refl _) _).setCell (Nat.le_refl _) _
end Go.Proofs.Qxb6605736a
