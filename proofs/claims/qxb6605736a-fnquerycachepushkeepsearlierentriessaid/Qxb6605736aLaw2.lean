import Derived.Test.Qxb6605736aEntry
import Derived.Test.Qxb6605736aWalkWidth
namespace Go.Proofs.Qxb6605736a
open Go.RowKit Go.Deep

theorem zz22_t (a : Option Addr) (len cap : Nat) (p : Int) (w : World) (h : len ≤ 1048576) :
    Calls Try.prog 22 #[.slice a len cap, .int .u32 p] w fun e w' => e = .returned (.bool true) ∧ w' = w := by
  have h1 : ¬ (1048576 : Int) < (len : Int) := by omega
  go_enter Try.func22, Try.ntmps22
  go_wp2
  go_ret
  exact ⟨rfl, rfl⟩
theorem zz22_f (a : Option Addr) (len cap : Nat) (p : Int) (w : World) (h : ¬ len ≤ 1048576) :
    Calls Try.prog 22 #[.slice a len cap, .int .u32 p] w fun e w' => e = .returned (.bool false) ∧ w' = w := by
  have h1 : (1048576 : Int) < (len : Int) := by omega
  go_enter Try.func22, Try.ntmps22
  go_wp2
  go_ret
  exact ⟨rfl, rfl⟩

theorem Hdr.kept {w w' : World} {sb : Nat} {v : Value} {n wd m : Nat} (H : Hdr w sb v n wd m) (h : w'.heap[sb]? = w.heap[sb]?) : Hdr w' sb v n wd m := by
  have k : ∀ j, w'.cell? ⟨sb, j, none⟩ = w.cell? ⟨sb, j, none⟩ := fun j => World.cell?_of_block h
  exact ⟨(k 0).trans H.c0, (k 1).trans H.c1, (k 2).trans H.c2, (k 3).trans H.c3, fun j => (World.frozen?_of_block h).trans (H.f j)⟩
theorem Row.kept {w w' : World} {g cap : Nat} {bs : Nat → Nat} (R : Row w g cap bs) (h : w'.heap[g]? = w.heap[g]?) : Row w' g cap bs := fun j hj =>
  ⟨(World.cell?_of_block h).trans (R j hj).1, (World.frozen?_of_block h).trans (R j hj).2.1, (R j hj).2.2⟩
theorem LL.kept {w w' : World} {sb n wd g : Nat} {xs : Nat → Nat} (h : LL w sb n wd g xs) (h1 : w'.heap[sb]? = w.heap[sb]?) (h2 : w'.heap[g]? = w.heap[g]?) : LL w' sb n wd g xs := by
  rcases h with ⟨a, b, H⟩ | ⟨cap, bs, L, hc⟩
  · exact .inl ⟨a, b, H.kept h1⟩
  · exact .inr ⟨cap, bs, ⟨L.hdr.kept h1, L.row.kept h2, L.ne, L.w1, L.w4, L.fits, L.small⟩, hc⟩
theorem LL.later {w w' : World} {sb n wd g : Nat} {xs : Nat → Nat} (h : LL w sb n wd g xs) (hb : Below w.heap.size w w') : LL w' sb n wd g xs := by
  rcases h with ⟨a, b, H⟩ | ⟨cap, bs, L, hc⟩
  · exact .inl ⟨a, b, H.later hb⟩
  · exact .inr ⟨cap, bs, ⟨L.hdr.later hb, L.row.later hb, L.ne, L.w1, L.w4, L.fits, L.small⟩, hc⟩

theorem LL.len {w : World} {sb n wd g : Nat} {xs : Nat → Nat} (h : LL w sb n wd g xs) : w.cell? ⟨sb, 1, none⟩ = some (.int .i64 n) := by
  rcases h with ⟨_, rfl, H⟩ | ⟨cap, bs, L, _⟩
  · exact H.c1
  · exact L.hdr.c1

/-- The bytes' block may be taken to lie in memory. -/
theorem LL.pick {w : World} {sb n wd g B : Nat} {xs : Nat → Nat} (h : LL w sb n wd g xs) (h1 : B ≤ sb) (h2 : B ≤ g) : ∃ g', LL w sb n wd g' xs ∧ g' < w.heap.size ∧ B ≤ g' := by
  have hlt := h.lt
  rcases h with h | ⟨cap, bs, L, hc⟩
  · exact ⟨sb, .inl h, hlt, h1⟩
  · exact ⟨g, .inr ⟨cap, bs, L, hc⟩, L.row.lt (by have := L.fits; omega), h2⟩

/-- The list copied into a new query cache: the cache's block, and that its peers are the same list. -/
theorem LL.cache {w : World} {sb n wd g : Nat} {xs : Nat → Nat} (h : LL w sb n wd g xs) : ∃ a l c m, Hdr w sb (.slice a l c) n wd m ∧
    ∀ b1 v1 b2 v2 b3 v3, LL (w.alloc (qObj (.slice a l c) n wd m b1 v1 b2 v2 b3 v3)) w.heap.size n wd g xs := by
  have made : ∀ (v : Value) (n wd m : Nat) b1 v1 b2 v2 b3 v3, Hdr (w.alloc (qObj v n wd m b1 v1 b2 v2 b3 v3)) w.heap.size v n wd m := fun v n wd m b1 v1 b2 v2 b3 v3 => by
    unfold qObj
    exact ⟨by simp, by simp, by simp, by simp, fun j => by simp⟩
  rcases h with ⟨rfl, rfl, H⟩ | ⟨cap, bs, L, hc⟩
  · exact ⟨none, 0, 0, 0, H, fun b1 v1 b2 v2 b3 v3 => .inl ⟨rfl, rfl, made _ _ _ _ _ _ _ _ _ _⟩⟩
  · refine ⟨_, _, _, _, L.hdr, fun b1 v1 b2 v2 b3 v3 => .inr ⟨cap, bs, ⟨made _ _ _ _ _ _ _ _ _ _, L.row.alloc _, ?_, L.w1, L.w4, L.fits, L.small⟩, hc⟩⟩
    have := L.row.lt (by have := L.fits; omega)
    omega

/-- An entry out of a cache whose peers are the list. -/
theorem entryLL {w : World} {qb n wd g : Nat} {xs : Nat → Nat} (i : Nat) (lc f r : Int) (h : LL w qb n wd g xs) (hi : i < n) (C1 : Col w qb 4 i lc) (C2 : Col w qb 6 i f) (C3 : Col w qb 8 i r) :
    Calls Try.prog 21 #[.pointer (some ⟨qb, 0, none⟩), .int .i64 i] w fun e w' => e = .returned (ent (xs i) lc f r) ∧ Below w.heap.size w w' := by
  rcases h with ⟨_, h, _⟩ | ⟨cap, bs, L, hc⟩
  · omega
  · have h := entry21 qb g i wd _ cap n bs lc f r w L.hdr L.row L.w1 L.w4 (by have := mul_far i n wd hi; have := L.w1; omega) L.fits L.small C1 C2 C3
    rw [hc i hi] at h
    exact h

/-- The cells of a slice of entries that hold no more than a peer. -/
def Bef (w : World) (mb n : Nat) (y : Nat → Nat) : Prop :=
  ∀ i, i < n → w.cell? ⟨mb, i * 7, none⟩ = some (.int .u32 (y i : Nat)) ∧ w.cell? ⟨mb, i * 7 + 1, none⟩ = some (.bool false) ∧ w.cell? ⟨mb, i * 7 + 2, none⟩ = some (.int .i64 0) ∧ w.cell? ⟨mb, i * 7 + 3, none⟩ = some (.int .i64 0) ∧
    w.cell? ⟨mb, i * 7 + 4, none⟩ = some (.int .i64 0) ∧ w.cell? ⟨mb, i * 7 + 5, none⟩ = some (.int .i64 0) ∧ w.cell? ⟨mb, i * 7 + 6, none⟩ = some (.int .i64 0) ∧ ∀ j, w.frozen? ⟨mb, j, none⟩ = false

/-- The block of 'make([]peer.Entry, n)'. -/
def befObj (n : Nat) : Obj := .cells (madeCells (ent 0 0 0 0).cells (n * 7)) 45

theorem madeEnt (n i j : Nat) (hi : i < n) (hj : j < 7) : (madeCells (ent 0 0 0 0).cells (n * 7))[i * 7 + j]? = (ent 0 0 0 0).cells[j]? := by
  have h7 : (ent 0 0 0 0).cells.size = 7 := rfl
  have hlt : i * 7 + j < n * 7 := by omega
  unfold madeCells
  rw [Array.getElem?_map, Array.getElem?_range, if_pos hlt, Option.map_some, h7, Nat.mul_add_mod_self_right, Nat.mod_eq_of_lt hj]
  rw [getElem!_pos (ent 0 0 0 0).cells j (by omega), Array.getElem?_eq_getElem (by omega)]

theorem bef_made (w : World) (n : Nat) (x : Nat → Nat) : Bef (w.alloc (befObj n)) w.heap.size n (fun i => if i < 0 then x i else 0) := fun i hi => by
  unfold befObj
  refine ⟨?_, ?_, ?_, ?_, ?_, ?_, ?_, fun j => World.frozen?_alloc_new w _ _ j⟩
  · rw [World.cell?_alloc_new]; exact madeEnt n i 0 hi (by decide)
  · rw [World.cell?_alloc_new]; exact madeEnt n i 1 hi (by decide)
  · rw [World.cell?_alloc_new]; exact madeEnt n i 2 hi (by decide)
  · rw [World.cell?_alloc_new]; exact madeEnt n i 3 hi (by decide)
  · rw [World.cell?_alloc_new]; exact madeEnt n i 4 hi (by decide)
  · rw [World.cell?_alloc_new]; exact madeEnt n i 5 hi (by decide)
  · rw [World.cell?_alloc_new]; exact madeEnt n i 6 hi (by decide)

/-- What holds while the earlier entries are gathered. -/
structure Q2 (w : World) (x : Nat → Nat) (qb g mb n k : Nat) (wr : World) : Prop where
  ll : LL wr qb n (wdt x n) g x
  f4 : wr.cell? ⟨qb, 4, none⟩ = some (.bool false)
  f6 : wr.cell? ⟨qb, 6, none⟩ = some (.bool false)
  f8 : wr.cell? ⟨qb, 8, none⟩ = some (.bool false)
  bef : Bef wr mb n (fun i => if i < k then x i else 0)
  bel : Below w.heap.size w wr
  ne1 : mb ≠ qb
  ne2 : mb ≠ g
  b1 : w.heap.size ≤ qb
  b2 : w.heap.size ≤ g
  b3 : w.heap.size ≤ mb

/-- An entry that holds no more than a peer, stored. -/
def putEnt (w : World) (mb o p : Nat) : World :=
  ((((((w.setCell ⟨mb, o, none⟩ (.int .u32 p)).setCell ⟨mb, o + 1, none⟩ (.bool false)).setCell ⟨mb, o + 2, none⟩ (.int .i64 0)).setCell ⟨mb, o + 3, none⟩ (.int .i64 0)).setCell ⟨mb, o + 4, none⟩ (.int .i64 0)).setCell ⟨mb, o + 5, none⟩ (.int .i64 0)).setCell ⟨mb, o + 6, none⟩ (.int .i64 0)

theorem putEnt_cell {w : World} {mb o p j : Nat} {v : Value} (h : w.cell? ⟨mb, j, none⟩ = some v) : (putEnt w mb o p).cell? ⟨mb, j, none⟩ =
    some (if j = o + 6 then .int .i64 0 else if j = o + 5 then .int .i64 0 else if j = o + 4 then .int .i64 0 else if j = o + 3 then .int .i64 0 else if j = o + 2 then .int .i64 0 else if j = o + 1 then .bool false else if j = o then .int .u32 p else v) :=
  cell_set1 (cell_set1 (cell_set1 (cell_set1 (cell_set1 (cell_set1 (cell_set1 h))))))
theorem putEnt_frozen (w : World) (mb o p : Nat) (a : Addr) : (putEnt w mb o p).frozen? a = w.frozen? a := by
  unfold putEnt
  rw [World.frozen?_setCell, World.frozen?_setCell, World.frozen?_setCell, World.frozen?_setCell, World.frozen?_setCell, World.frozen?_setCell, World.frozen?_setCell]
theorem putEnt_block (w : World) (mb o p k : Nat) (h : k ≠ mb) : (putEnt w mb o p).heap[k]? = w.heap[k]? := by
  unfold putEnt
  rw [Below.heap_setCell _ _ _ _ h, Below.heap_setCell _ _ _ _ h, Below.heap_setCell _ _ _ _ h, Below.heap_setCell _ _ _ _ h, Below.heap_setCell _ _ _ _ h, Below.heap_setCell _ _ _ _ h, Below.heap_setCell _ _ _ _ h]
theorem putEnt_below {w0 w : World} {mb o p B : Nat} (h : Below B w0 w) (hB : B ≤ mb) : Below B w0 (putEnt w mb o p) :=
  ((((((h.setCell hB _).setCell hB _).setCell hB _).setCell hB _).setCell hB _).setCell hB _).setCell hB _

theorem Bef.later {w w' : World} {mb n : Nat} {y : Nat → Nat} (h : Bef w mb n y) (hb : Below w.heap.size w w') : Bef w' mb n y := fun i hi => by
  obtain ⟨z0, z1, z2, z3, z4, z5, z6, zf⟩ := h i hi
  have hmlt : mb < w.heap.size := World.block_lt_of_cell? _ _ z0
  exact ⟨cell_later hb z0, cell_later hb z1, cell_later hb z2, cell_later hb z3, cell_later hb z4, cell_later hb z5, cell_later hb z6, fun j => (hb.frozen (p := ⟨mb, j, none⟩) hmlt).trans (zf j)⟩

theorem bef_put {w : World} {mb n k : Nat} {x : Nat → Nat} (h : Bef w mb n (fun i => if i < k then x i else 0)) : Bef (putEnt w mb (k * 7) (x k)) mb n (fun i => if i < k + 1 then x i else 0) := fun i hi => by
  obtain ⟨z0, z1, z2, z3, z4, z5, z6, zf⟩ := h i hi
  refine ⟨?_, ?_, ?_, ?_, ?_, ?_, ?_, fun j => by rw [putEnt_frozen]; exact zf j⟩
  · rw [putEnt_cell z0]
    dsimp only
    by_cases e : i = k
    · subst e
      rw [if_neg (by omega), if_neg (by omega), if_neg (by omega), if_neg (by omega), if_neg (by omega), if_neg (by omega), if_pos rfl, if_pos (by omega)]
    · rw [if_neg (by omega), if_neg (by omega), if_neg (by omega), if_neg (by omega), if_neg (by omega), if_neg (by omega), if_neg (by omega)]
      by_cases hk : i < k
      · rw [if_pos hk, if_pos (by omega)]
      · rw [if_neg hk, if_neg (by omega)]
  · rw [putEnt_cell z1]
    repeat' split
    all_goals first | rfl | omega
  · rw [putEnt_cell z2]
    repeat' split
    all_goals first | rfl | omega
  · rw [putEnt_cell z3]
    repeat' split
    all_goals first | rfl | omega
  · rw [putEnt_cell z4]
    repeat' split
    all_goals first | rfl | omega
  · rw [putEnt_cell z5]
    repeat' split
    all_goals first | rfl | omega
  · rw [putEnt_cell z6]
    repeat' split
    all_goals first | rfl | omega

theorem q2_step {w wr w1 : World} {x : Nat → Nat} {qb g mb n k : Nat} (h : Q2 w x qb g mb n k wr) (hb : Below wr.heap.size wr w1) : Q2 w x qb g mb n (k + 1) (putEnt w1 mb (k * 7) (x k)) := by
  have kq : ∀ j v, w1.cell? ⟨qb, j, none⟩ = some v → (putEnt w1 mb (k * 7) (x k)).cell? ⟨qb, j, none⟩ = some v := fun j v hv => (World.cell?_of_block (putEnt_block _ _ _ _ _ (fun e => h.ne1 e.symm))).trans hv
  have hs := h.bel.size
  exact ⟨(h.ll.later hb).kept (putEnt_block _ _ _ _ _ (fun e => h.ne1 e.symm)) (putEnt_block _ _ _ _ _ (fun e => h.ne2 e.symm)), kq _ _ (cell_later hb h.f4), kq _ _ (cell_later hb h.f6), kq _ _ (cell_later hb h.f8),
    bef_put (h.bef.later hb), putEnt_below (h.bel.trans (hb.mono hs)) h.b3, h.ne1, h.ne2, h.b1, h.b2, h.b3⟩

theorem q2_draws {w wr : World} {x : Nat → Nat} {qb g mb n k : Nat} (h : Q2 w x qb g mb n k wr) (nq : Nat) : Q2 w x qb g mb n k (wr.drewN nq) :=
  ⟨h.ll.kept rfl rfl, h.f4, h.f6, h.f8, h.bef, below_drewN h.bel nq, h.ne1, h.ne2, h.b1, h.b2, h.b3⟩

/-- What holds behind the last push, while the entries are held against the earlier ones. -/
structure Q3 (w : World) (y : Nat → Nat) (qb n W g mb : Nat) (x : Nat → Nat) (wr : World) : Prop where
  ll : LL wr qb (n + 1) W g y
  f4 : wr.cell? ⟨qb, 4, none⟩ = some (.bool false)
  f6 : wr.cell? ⟨qb, 6, none⟩ = some (.bool false)
  f8 : wr.cell? ⟨qb, 8, none⟩ = some (.bool false)
  bef : Bef wr mb n x
  bel : Below w.heap.size w wr

theorem Bef.kept {w w' : World} {mb n : Nat} {y : Nat → Nat} (h : Bef w mb n y) (hb : w'.heap[mb]? = w.heap[mb]?) : Bef w' mb n y := fun i hi => by
  obtain ⟨z0, z1, z2, z3, z4, z5, z6, zf⟩ := h i hi
  have k : ∀ j, w'.cell? ⟨mb, j, none⟩ = w.cell? ⟨mb, j, none⟩ := fun j => World.cell?_of_block hb
  exact ⟨(k _).trans z0, (k _).trans z1, (k _).trans z2, (k _).trans z3, (k _).trans z4, (k _).trans z5, (k _).trans z6, fun j => (World.frozen?_of_block hb).trans (zf j)⟩
theorem Bef.congr {w : World} {mb n : Nat} {y z : Nat → Nat} (h : Bef w mb n y) (he : ∀ i, i < n → y i = z i) : Bef w mb n z := fun i hi => by rw [← he i hi]; exact h i hi

theorem q3_start {w wr w3 : World} {x y : Nat → Nat} {qb g mb n W g3 : Nat} (h : Q2 w x qb g mb n n wr) (hL : LL w3 qb (n + 1) W g3 y) (F : Fr qb g wr w3) : Q3 w y qb n W g3 mb x w3 := by
  have hs := h.bel.size
  refine ⟨hL, (F.rest 4 (by decide)).trans h.f4, (F.rest 6 (by decide)).trans h.f6, (F.rest 8 (by decide)).trans h.f8, ?_, h.bel.trans (F.below h.b1 h.b2 hs)⟩
  have hb : Bef wr mb n x := h.bef.congr fun i hi => by rw [if_pos hi]
  intro i hi
  have hlt : mb < wr.heap.size := World.block_lt_of_cell? _ _ (hb i hi).1
  exact (hb.kept (F.block mb hlt h.ne1 h.ne2)) i hi

theorem q3_drew {w wr : World} {x y : Nat → Nat} {qb n W g mb : Nat} (h : Q3 w y qb n W g mb x wr) : Q3 w y qb n W g mb x wr.drew :=
  ⟨h.ll.kept rfl rfl, h.f4, h.f6, h.f8, h.bef, h.bel.drew⟩
theorem q3_later {w wr w1 : World} {x y : Nat → Nat} {qb n W g mb : Nat} (h : Q3 w y qb n W g mb x wr) (hb : Below wr.heap.size wr w1) : Q3 w y qb n W g mb x w1 :=
  ⟨h.ll.later hb, cell_later hb h.f4, cell_later hb h.f6, cell_later hb h.f8, h.bef.later hb, h.bel.trans (hb.mono h.bel.size)⟩

theorem Try.info45 : (Try.prog.info? 45).map (fun i => (i.zero, i.size, i.bytes)) = some (some (ent 0 0 0 0), 7, 48) := by kernel_rfl

set_option maxHeartbeats 3200000 in
theorem walk6 (a0 : Option Addr) (len0 cap0 p : Nat) (x : Nat → Nat) (w : World) (hx : In32 w a0 len0 x) (hp : p < 4294967296) (hlen : len0 ≤ 65536) :
    Calls Try.prog 6 #[.slice a0 len0 cap0, .int .u32 p] w fun e w' => e = .returned (.bool true) ∧ Below w.heap.size w w' := by
  have k1 : ¬ (65536 : Int) < (len0 : Int) := by omega
  have k1b : decide ((65536 : Int) < (len0 : Int)) = false := by simp; omega
  have hmk : ∀ w', (Instr.makeSlice 47 (.int .i64 len0) (.int .i64 len0)).run Try.prog w' = .ok (.slice (some ⟨w'.heap.size, 0, none⟩) len0 len0) (w'.alloc (befObj len0)) := fun w' => by
    obtain ⟨i, hi, hzz⟩ := Option.map_eq_some_iff.1 Try.info45
    simp only [Prod.mk.injEq] at hzz
    obtain ⟨hz, hs, hb⟩ := hzz
    have h := run_make (P := Try.prog) w' 47 45 i _ Try.underlying47 hi hz .i64 .i64 len0 len0 (by omega) (by omega) (by rw [hb]; omega) (by omega)
    rw [hs, Int.toNat_natCast] at h
    exact h
  go_enter Try.func6, Try.ntmps6
  go_wp2_with (first | (go_at_call 22; refine (zz22_t a0 len0 cap0 p _ (by omega)).mono ?_; rintro e w' ⟨rfl, hq⟩; obtain rfl := hq.symm) | (go_at_call 8; refine (new_any _).mono ?_; rintro e w' ⟨rfl, hq⟩; obtain rfl := hq.symm))
  have hinv0 : Inv w x w.heap.size 0 (w.alloc (.cells #[.slice none 0 0, .int .i64 0, .int .i64 0, .int .u32 0] 51)) := ⟨w.heap.size, new_LL w _ x, (Below.refl _ _).alloc (Nat.le_refl _) _, Nat.le_refl _, Nat.le_refl _⟩
  go_loopw [7] (fun i wr => ∃ k : Nat, k ≤ len0 ∧ i = .int .i64 k ∧ Inv w x w.heap.size k wr) (fun i _ => len0 - (intOf i).toNat)
  case atStart => exact ⟨0, Nat.zero_le _, rfl, hinv0⟩
  case round =>
    obtain ⟨k, hk, rfl, g, hL, hb, h1, h2⟩ := hrel
    clear hinv0
    by_cases hk2 : k < len0
    · rcases hx with h0 | ⟨b, off, rfl, hc⟩
      · omega
      obtain ⟨hcell, hxk⟩ := hc k hk2
      have hcr := cell_later hb hcell
      have hpush := push9 w.heap.size k (wdt x k) g (x k) x wr hL hxk (by omega)
      go_wp2_with (go_at_call 9; refine hpush.mono ?_; rintro e w1 ⟨rfl, g1, hL1, F1, hg1⟩; have hi1 := inv_push hL1 F1 hg1 hb h1 h2)
      go_roundw
      case rel => exact ⟨k + 1, by omega, by go_num, hi1⟩
      case measure => simp [intOf]; omega
    · have e : len0 = k := by omega
      subst e
      obtain ⟨g, hL, hglt, h2⟩ := hL.pick h1 h2
      obtain ⟨a, l, c, m, HQ, hLQ⟩ := hL.cache
      have hof := of19 w.heap.size len0 (wdt x len0) m a l c wr HQ false false false none none none 0 0 0 0 0 0
      have hLq := hLQ false (.slice none 0 0) false (.slice none 0 0) false (.slice none 0 0)
      have hcq4 : (wr.alloc (qObj (.slice a l c) len0 (wdt x len0) m false (.slice none 0 0) false (.slice none 0 0) false (.slice none 0 0))).cell? ⟨wr.heap.size, 4, none⟩ = some (.bool false) := by unfold qObj; simp
      have hcq6 : (wr.alloc (qObj (.slice a l c) len0 (wdt x len0) m false (.slice none 0 0) false (.slice none 0 0) false (.slice none 0 0))).cell? ⟨wr.heap.size, 6, none⟩ = some (.bool false) := by unfold qObj; simp
      have hcq8 : (wr.alloc (qObj (.slice a l c) len0 (wdt x len0) m false (.slice none 0 0) false (.slice none 0 0) false (.slice none 0 0))).cell? ⟨wr.heap.size, 8, none⟩ = some (.bool false) := by unfold qObj; simp
      have hbq : Below w.heap.size w (wr.alloc (qObj (.slice a l c) len0 (wdt x len0) m false (.slice none 0 0) false (.slice none 0 0) false (.slice none 0 0))) := hb.alloc hb.size _
      generalize hq : wr.alloc (qObj (.slice a l c) len0 (wdt x len0) m false (.slice none 0 0) false (.slice none 0 0) false (.slice none 0 0)) = wq at hof hLq hcq4 hcq6 hcq8 hbq
      have hqs : wq.heap.size = wr.heap.size + 1 := by rw [← hq]; simp
      have hl20 := len20 wr.heap.size len0 wq (LL.len hLq)
      go_wp2_with (first | (go_at_call 19; refine hof.mono ?_; rintro e w' ⟨rfl, hq'⟩; obtain rfl := hq'.symm) | (go_at_call 20; refine hl20.mono ?_; rintro e w' ⟨rfl, hq'⟩; obtain rfl := hq'.symm))
      have hw := hb.size
      have hal : Below wq.heap.size wq (wq.alloc (befObj len0)) := (Below.refl _ _).alloc (Nat.le_refl _) _
      have hQ0 : Q2 w x wr.heap.size g (wr.heap.size + 1) len0 0 (wq.alloc (befObj len0)) := by
        refine ⟨hLq.later hal, cell_later hal hcq4, cell_later hal hcq6, cell_later hal hcq8, ?_, hbq.trans (hal.mono (by omega)), by omega, ?_, by omega, h2, by omega⟩
        · have h := bef_made wq len0 x
          rw [hqs] at h
          exact h
        · omega
      clear hbq hal hLQ hof hLq hcq4 hcq6 hcq8 hl20 HQ hq hqs hL hglt
      generalize wq.alloc (befObj len0) = wz at hQ0 ⊢
      clear wq hb h1 h2
      generalize wr.heap.size = qb at *
      go_loopw [10] (fun i wy => ∃ k : Nat, k ≤ len0 ∧ i = .int .i64 k ∧ Q2 w x qb g (qb + 1) len0 k wy) (fun i _ => len0 - (intOf i).toNat)
      case atStart => exact ⟨0, Nat.zero_le _, rfl, hQ0⟩
      case round =>
        obtain ⟨k, hk, rfl, hQ⟩ := hrel
        clear hQ0
        by_cases hk2 : k < len0
        · have hent := entryLL k 0 0 0 hQ.ll hk2 (.inl ⟨hQ.f4, rfl⟩) (.inl ⟨hQ.f6, rfl⟩) (.inl ⟨hQ.f8, rfl⟩)
          unfold ent at hent
          obtain ⟨z0, z1, z2, z3, z4, z5, z6, zf⟩ := hQ.bef k hk2
          have hmlt : qb + 1 < wr.heap.size := World.block_lt_of_cell? _ _ z0
          go_wp2_with (go_at_call 21; refine hent.mono ?_; rintro e w1 ⟨rfl, hb1⟩; have y0 := cell_later hb1 z0; have y1 := cell_later hb1 z1; have y2 := cell_later hb1 z2; have y3 := cell_later hb1 z3; have y4 := cell_later hb1 z4; have y5 := cell_later hb1 z5; have y6 := cell_later hb1 z6; have yf : ∀ j, w1.frozen? ⟨qb + 1, j, none⟩ = false := fun j => (hb1.frozen (p := ⟨qb + 1, j, none⟩) hmlt).trans (zf j))
          have hQ1 := q2_step hQ hb1
          have hput : putEnt w1 (qb + 1) (k * 7) (x k) = ((((((w1.setCell ⟨qb + 1, k * 7, none⟩ (.int .u32 (x k : Nat))).setCell ⟨qb + 1, k * 7 + 1, none⟩ (.bool false)).setCell ⟨qb + 1, k * 7 + 2, none⟩ (.int .i64 0)).setCell ⟨qb + 1, k * 7 + 3, none⟩ (.int .i64 0)).setCell ⟨qb + 1, k * 7 + 4, none⟩ (.int .i64 0)).setCell ⟨qb + 1, k * 7 + 5, none⟩ (.int .i64 0)).setCell ⟨qb + 1, k * 7 + 6, none⟩ (.int .i64 0) := rfl
          rw [← hput]
          clear hput
          generalize putEnt w1 (qb + 1) (k * 7) (x k) = w2 at hQ1 ⊢
          clear y0 y1 y2 y3 y4 y5 y6 yf z0 z1 z2 z3 z4 z5 z6 zf hent hmk
          rcases hx with h0 | ⟨b, off, rfl, hc⟩
          · omega
          obtain ⟨hcell, hxk⟩ := hc k hk2
          have hcr := cell_later hQ1.bel hcell
          obtain ⟨z0, z1, z2, z3, z4, z5, z6, zf⟩ := hQ1.bef k hk2
          dsimp only at z0
          rw [if_pos (by omega)] at z0
          clear hc hcell
          go_quiet (fail)
          go_wp2
          go_roundw
          case rel => exact ⟨k + 1, by omega, by go_num, q2_draws hQ1 nq⟩
          case measure => simp [intOf]; omega
        · have e : len0 = k := by omega
          subst e
          have hpush := push23 qb len0 (wdt x len0) g p x wr hQ.ll hp (by omega)
          go_wp2_with (first | (go_at_call 23; refine hpush.mono ?_; rintro e w3 ⟨rfl, g3, hL3, F3, hg3⟩; have hQ3 := q3_start hQ hL3 F3; have hl20 := len20 qb (len0 + 1) w3 hL3.len) | (go_at_call 20; refine hl20.mono ?_; rintro e w' ⟨rfl, hq'⟩; obtain rfl := hq'.symm))
          clear hpush hQ hk2 hk hmk hl20
          go_loopw [11] (fun i wy => ∃ k : Nat, k ≤ len0 ∧ i = .int .i64 k ∧ Q3 w (fun i => if i < len0 then x i else p) qb len0 (max (wdt x len0) (need p)) g3 (qb + 1) x wy) (fun i _ => len0 - (intOf i).toNat)
          case atStart => exact ⟨0, Nat.zero_le _, rfl, hQ3⟩
          case round =>
            obtain ⟨k, hk, rfl, hQ⟩ := hrel
            clear hQ3 hL3 F3 hg3
            by_cases hk2 : k < len0
            · have hk3 : (k : Int) < (len0 : Int) := by omega
              obtain ⟨z0, z1, z2, z3, z4, z5, z6, zf⟩ := hQ.bef k hk2
              have hent := entryLL k 0 0 0 (q3_drew hQ).ll (by omega) (.inl ⟨hQ.f4, rfl⟩) (.inl ⟨hQ.f6, rfl⟩) (.inl ⟨hQ.f8, rfl⟩)
              rw [if_pos hk2] at hent
              unfold ent at hent
              go_wp2
              go_region_held3 (fun w' => w'.cell? ⟨qb + 1, k * 7, none⟩ = some (.int .u32 (x k : Nat)) ∧ w'.cell? ⟨qb + 1, k * 7 + 1, none⟩ = some (.bool false) ∧ w'.cell? ⟨qb + 1, k * 7 + 2, none⟩ = some (.int .i64 0) ∧ w'.cell? ⟨qb + 1, k * 7 + 3, none⟩ = some (.int .i64 0) ∧ w'.cell? ⟨qb + 1, k * 7 + 4, none⟩ = some (.int .i64 0) ∧ w'.cell? ⟨qb + 1, k * 7 + 5, none⟩ = some (.int .i64 0) ∧ w'.cell? ⟨qb + 1, k * 7 + 6, none⟩ = some (.int .i64 0))
                (first | exact ⟨z0, z1, z2, z3, z4, z5, z6⟩ | exact ⟨cell_later hb z0, cell_later hb z1, cell_later hb z2, cell_later hb z3, cell_later hb z4, cell_later hb z5, cell_later hb z6⟩)
                (first | (go_at_call 21; refine hent.mono ?_; rintro e w1 ⟨rfl, hb'⟩; have hb := below_of_drew hb'))
              go_wp2
              go_roundw
              case rel => exact ⟨k + 1, by omega, by go_num, q3_later hQ hb⟩
              case measure => simp [intOf]; omega
            · have e : len0 = k := by omega
              subst e
              have hent := entryLL len0 0 0 0 hQ.ll (by omega) (.inl ⟨hQ.f4, rfl⟩) (.inl ⟨hQ.f6, rfl⟩) (.inl ⟨hQ.f8, rfl⟩)
              rw [if_neg (by omega)] at hent
              unfold ent at hent
              go_wp2_with (go_at_call 21; refine hent.mono ?_; rintro e w1 ⟨rfl, hb⟩)
              go_ret
              exact ⟨rfl, (q3_later hQ hb).bel⟩
end Go.Proofs.Qxb6605736a
