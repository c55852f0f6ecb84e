import Derived.Test.Qxb6605736aLaw3b
namespace Go.Proofs.Qxb6605736a
open Go.RowKit Go.Deep

theorem In32.later {w w' : World} {a : Option Addr} {len : Nat} {x : Nat → Nat} (h : In32 w a len x) (hb : Below w.heap.size w w') : In32 w' a len x := by
  rcases h with h | ⟨b, off, e, hc⟩
  · exact .inl h
  · exact .inr ⟨b, off, e, fun j hj => ⟨cell_later hb (hc j hj).1, (hc j hj).2⟩⟩

theorem col_of {w : World} {qb o : Nat} {b : Bool} {a : Option Addr} {len cap n : Nat} {y : Nat → Int} (h1 : w.cell? ⟨qb, o, none⟩ = some (.bool b)) (h2 : w.cell? ⟨qb, o + 1, none⟩ = some (.slice a len cap)) (hin : In64 w a len y)
    (hf : cf b len n = true) (hlen : len ≤ 65536) (i : Nat) (hi : i < n) : Col w qb o i (if b then y i else 0) := by
  cases b with
  | false => exact .inl ⟨h1, rfl⟩
  | true =>
    have e : len = n := by simpa [cf] using hf
    rcases hin with h | ⟨g, off, rfl, hc⟩
    · omega
    · exact .inr ⟨h1, g, off, len, cap, h2, by omega, by unfold maxLen; omega, hc i (by omega)⟩

/-- A kept column's own argument, read in a round. -/
theorem row_at {wq wy : World} {b : Bool} {a : Option Addr} {len n k : Nat} {y : Nat → Int} (hf : cf b len n = true) (hk : k < n) (hin : In64 wq a len y) (hb : Below wq.heap.size wq wy) :
    b = true → ∃ bb oo, a = some ⟨bb, oo, none⟩ ∧ (k : Int) < (len : Int) ∧ ∀ o, (wy.alloc o).cell? ⟨bb, oo + k, none⟩ = some (.int .i64 (y k)) := by
  rintro rfl
  have e : len = n := by simpa [cf] using hf
  rcases hin with h | ⟨bb, oo, rfl, hc⟩
  · omega
  · exact ⟨bb, oo, rfl, by omega, fun o => cell_al o (cell_later hb (hc k (by omega)))⟩

set_option linter.unusedSimpArgs false in
set_option maxRecDepth 100000 in
set_option maxHeartbeats 12800000 in
theorem walk5 (a0 a1 a2 a3 : Option Addr) (l0 c0 l1 c1 l2 c2 l3 c3 : Nat) (b1 b2 b3 : Bool) (x : Nat → Nat) (y1 y2 y3 : Nat → Int) (w : World) (hx : In32 w a0 l0 x) (i1 : In64 w a1 l1 y1) (i2 : In64 w a2 l2 y2) (i3 : In64 w a3 l3 y3)
    (hz : ∀ w, Calls Try.prog 16 #[.slice a0 l0 c0, .bool b1, .slice a1 l1 c1, .bool b2, .slice a2 l2 c2, .bool b3, .slice a3 l3 c3] w fun e w' => e = .returned (.bool true) ∧ w' = w)
    (e0 : l0 ≤ 65536) (e1 : l1 ≤ 65536) (e2 : l2 ≤ 65536) (e3 : l3 ≤ 65536) (e4 : 4 * l0 + 8 * (l1 + l2 + l3) ≤ 1048576) (f1 : cf b1 l1 l0 = true) (f2 : cf b2 l2 l0 = true) (f3 : cf b3 l3 l0 = true) :
    Calls Try.prog 5 #[.slice a0 l0 c0, .bool b1, .slice a1 l1 c1, .bool b2, .slice a2 l2 c2, .bool b3, .slice a3 l3 c3] w fun e w' => e = .returned (.bool true) ∧ Below w.heap.size w w' := by
  have d0 : decide ((65536 : Int) < (l0 : Int)) = false := by simp; omega
  have d1 : decide ((65536 : Int) < (l1 : Int)) = false := by simp; omega
  have d2 : decide ((65536 : Int) < (l2 : Int)) = false := by simp; omega
  have d3 : decide ((65536 : Int) < (l3 : Int)) = false := by simp; omega
  have d4 : ¬ ((1048576 : Int) < 4 * (l0 : Int) + 8 * ((l1 : Int) + (l2 : Int) + (l3 : Int))) := by omega
  have d5 : decide ((1048576 : Int) < 4 * (l0 : Int) + 8 * ((l1 : Int) + (l2 : Int) + (l3 : Int))) = false := by simp; omega
  have hmk : ∀ w', (Instr.makeSlice 36 (.int .i64 l1) (.int .i64 l1)).run Try.prog w' = .ok (.slice (some ⟨w'.heap.size, 0, none⟩) l1 l1) (w'.alloc (intObj l1 37)) :=
    fun w' => run_make_row' (P := Try.prog) 36 37 (.int .i64 0) 8 Try.underlying36 Try.info37 rfl .i64 .i64 l1 (by omega) (by omega) w'
  go_enter Try.func5, Try.ntmps5
  go_wp2_with (first | (go_at_call 16; refine (hz _).mono ?_; rintro e w' ⟨rfl, hq⟩; obtain rfl := hq.symm) | (go_at_call 17; refine (cf17 _ _ _ _).mono ?_; rintro e w' ⟨rfl, hq⟩; obtain rfl := hq.symm))
  have hA0 : Arr (w.alloc (intObj l1 37)) w.heap.size l1 (fun j => if j < 0 then y1 j else 0) := arr_made w l1 37 y1
  have hb0 : Below w.heap.size w (w.alloc (intObj l1 37)) := (Below.refl _ _).alloc (Nat.le_refl _) _
  go_loopw [17] (fun i wr => ∃ k : Nat, k ≤ l1 ∧ i = .int .i64 k ∧ Arr wr w.heap.size l1 (fun j => if j < k then y1 j else 0) ∧ Below w.heap.size w wr) (fun i _ => l1 - (intOf i).toNat)
  case atStart => exact ⟨0, Nat.zero_le _, rfl, hA0, hb0⟩
  case round =>
    obtain ⟨k, hk, rfl, hA, hb⟩ := hrel
    clear hA0 hb0 hmk
    by_cases hk2 : k < l1
    · rcases i1 with h0 | ⟨b, off, rfl, hc⟩
      · omega
      have hcr := cell_later hb (hc k hk2)
      obtain ⟨q1, q2⟩ := hA k hk2
      have hk3 : (k : Int) < (l1 : Int) := by omega
      go_wp2
      go_roundw
      case rel => exact ⟨k + 1, by omega, by go_num, arr_set hA, hb.setCell (Nat.le_refl _) _⟩
      case measure => simp [intOf]; omega
    · have e : l1 = k := by omega
      subst e
      have j1 : In64 wr (some ⟨w.heap.size, 0, none⟩) l1 y1 := hA.in64
      have hcl2 := clone18 a2 l2 c2 y2 wr (i2.later hb) e2
      go_wp2_with (first | (go_at_call_of 18 (Value.slice a2 l2 c2); refine hcl2.mono ?_; rintro e w2 ⟨p2, m2, rfl, j2, hb2⟩; have hb2' := hb.trans (hb2.mono hb.size); have hcl3 := clone18 a3 l3 c3 y3 w2 (i3.later hb2') e3) | (go_at_call_of 18 (Value.slice a3 l3 c3); refine hcl3.mono ?_; rintro e w3 ⟨p3, m3, rfl, j3, hb3⟩) | (go_at_call 8; refine (new_any _).mono ?_; rintro e w' ⟨rfl, hq⟩; obtain rfl := hq.symm))
      have hb3' : Below w.heap.size w w3 := hb2'.trans (hb3.mono hb2'.size)
      have hbr : Below wr.heap.size wr w3 := hb2.trans (hb3.mono hb2.size)
      have j1' := j1.later hbr
      have j2' := j2.later hb3
      have hx3 := hx.later hb3'
      have i1' := i1.later hb3'
      have i2' := i2.later hb3'
      have i3' := i3.later hb3'
      generalize hlcs : (some (⟨w.heap.size, 0, none⟩ : Addr)) = p1 at j1' ⊢
      clear hlcs hcl2 hcl3 j1 j2 hbr hb3 hb2 hb2' hb hA hz hx i1 i2 i3 hk hk2 d4 d5
      have hinv0 : Inv w3 x w3.heap.size 0 (w3.alloc (.cells #[.slice none 0 0, .int .i64 0, .int .i64 0, .int .u32 0] 51)) := ⟨w3.heap.size, new_LL w3 _ x, (Below.refl _ _).alloc (Nat.le_refl _) _, Nat.le_refl _, Nat.le_refl _⟩
      go_loopw [21] (fun i wr => ∃ k : Nat, k ≤ l0 ∧ i = .int .i64 k ∧ Inv w3 x w3.heap.size k wr) (fun i _ => l0 - (intOf i).toNat)
      case atStart => exact ⟨0, Nat.zero_le _, rfl, hinv0⟩
      case round =>
        obtain ⟨k, hk, rfl, g, hL, hb, h1, h2⟩ := hrel
        clear hinv0
        by_cases hk2 : k < l0
        · rcases hx3 with h0 | ⟨b, off, rfl, hc⟩
          · omega
          obtain ⟨hcell, hxk⟩ := hc k hk2
          have hcr := cell_later hb hcell
          have hk3 : (k : Int) < (l0 : Int) := by omega
          have hpush := push9 w3.heap.size k (wdt x k) g (x k) x wr hL hxk (by omega)
          go_wp2_with (go_at_call 9; refine hpush.mono ?_; rintro e w1 ⟨rfl, g1, hL1, F1, hg1⟩; have hi1 := inv_push hL1 F1 hg1 hb h1 h2)
          go_roundw
          case rel => exact ⟨k + 1, by omega, by go_num, hi1⟩
          case measure => simp [intOf]; omega
        · have e : l0 = k := by omega
          subst e
          obtain ⟨a, l, c, m, HQ, hLQ⟩ := hL.cache
          have hof := of19 w3.heap.size l0 (wdt x l0) m a l c wr HQ b1 b2 b3 p1 p2 p3 l1 l1 l2 m2 l3 m3
          have hLq := hLQ b1 (.slice p1 l1 l1) b2 (.slice p2 l2 m2) b3 (.slice p3 l3 m3)
          obtain ⟨wq, hq, hq0⟩ : ∃ wq, wq = wr.alloc (qObj (.slice a l c) l0 (wdt x l0) m b1 (.slice p1 l1 l1) b2 (.slice p2 l2 m2) b3 (.slice p3 l3 m3)) ∧ wr.heap.size < wq.heap.size := ⟨_, rfl, by rw [World.size_alloc]; omega⟩
          have hbq : Below wr.heap.size wr wq := by rw [hq]; exact (Below.refl _ _).alloc (Nat.le_refl _) _
          have hb3q : Below w3.heap.size w3 wq := hb.trans (hbq.mono hb.size)
          have C1 := fun i hi => col_of (w := wq) (qb := wr.heap.size) (o := 4) (n := l0) (b := b1) (a := p1) (len := l1) (cap := l1) (by rw [hq]; unfold qObj; simp) (by rw [hq]; unfold qObj; simp) (j1'.later hb3q) f1 e1 i hi
          have C2 := fun i hi => col_of (w := wq) (qb := wr.heap.size) (o := 6) (n := l0) (b := b2) (a := p2) (len := l2) (cap := m2) (by rw [hq]; unfold qObj; simp) (by rw [hq]; unfold qObj; simp) (j2'.later hb3q) f2 e2 i hi
          have C3 := fun i hi => col_of (w := wq) (qb := wr.heap.size) (o := 8) (n := l0) (b := b3) (a := p3) (len := l3) (cap := m3) (by rw [hq]; unfold qObj; simp) (by rw [hq]; unfold qObj; simp) (j3.later hb3q) f3 e3 i hi
          rw [← hq] at hof hLq
          have hxq := hx3.later hb3q
          have i1q := i1'.later hb3q
          have i2q := i2'.later hb3q
          have i3q := i3'.later hb3q
          have hbw : Below w.heap.size w wq := hb3'.trans (hb3q.mono hb3'.size)
          have hl20 := len20 wr.heap.size l0 wq (LL.len hLq)
          clear hLQ HQ hb hL hx3 i1' i2' i3' hb3q hb3' j1' j2' j3 hq hbq hq0 h1 h2 hk hk2
          go_wp2_with (first | (go_at_call 19; refine hof.mono ?_; rintro e w' ⟨rfl, hq'⟩; obtain rfl := hq'.symm) | (go_at_call 20; refine hl20.mono ?_; rintro e w' ⟨rfl, hq'⟩; obtain rfl := hq'.symm))
          clear hof hl20
          generalize wr.heap.size = qb at *
          go_loopw [23] (fun i wy => ∃ k : Nat, k ≤ l0 ∧ i = .int .i64 k ∧ Below wq.heap.size wq wy) (fun i _ => l0 - (intOf i).toNat)
          case atStart => exact ⟨0, Nat.zero_le _, rfl, Below.refl _ _⟩
          case round =>
            obtain ⟨k, hk, rfl, hb⟩ := hrel
            by_cases hk2 : k < l0
            · have hk3 : (k : Int) < (l0 : Int) := by omega
              rcases hxq with h0 | ⟨b, off, rfl, hc⟩
              · omega
              obtain ⟨hcell, _⟩ := hc k hk2
              have hcr := cell_later hb hcell
              have hent : ∀ o, Calls Try.prog 21 #[.pointer (some ⟨qb, 0, none⟩), .int .i64 k] (wr.alloc o).drew fun e w' => e = .returned (ent (x k) (if b1 then y1 k else 0) (if b2 then y2 k else 0) (if b3 then y3 k else 0)) ∧ Below (wr.alloc o).drew.heap.size (wr.alloc o).drew w' := fun o => by
                have hbo : Below wq.heap.size wq (wr.alloc o).drew := (hb.alloc hb.size o).drew
                exact entryLL k _ _ _ (hLq.later hbo) hk2 ((C1 k hk2).later hbo) ((C2 k hk2).later hbo) ((C3 k hk2).later hbo)
              have hl1 := row_at f1 hk2 i1q hb
              have hl2 := row_at f2 hk2 i2q hb
              have hl3 := row_at f3 hk2 i3q hb
              have hrest : ∀ o w', Below (wr.alloc o).drew.heap.size (wr.alloc o).drew w' → Below wq.heap.size wq w' := fun o w' h => ((hb.alloc hb.size o).drew).trans (h.mono (by have := hb.size; rw [World.size_drew, World.size_alloc]; omega))
              clear C1 C2 C3 hLq f1 f2 f3 i1q i2q i3q hc hcell hb
              cases b1 with
              | false =>
                cases b2 with
                | false =>
                  cases b3 with
                  | false =>
                    clear hl1 hl2 hl3
                    simp only [Bool.false_eq_true, ↓reduceIte] at hent
                    have hent' := hent (.cells #[.int .u32 (x k : Nat), .bool false, .int .i64 0, .int .i64 0, .int .i64 0, .int .i64 0, .int .i64 0] 45)
                    clear hent
                    unfold ent at hent'
                    go_wp2
                    have z0 : (wr.alloc (.cells #[.int .u32 (x k : Nat), .bool false, .int .i64 0, .int .i64 0, .int .i64 0, .int .i64 0, .int .i64 0] 45)).drew.cell? ⟨wr.heap.size, 0, none⟩ = some (.int .u32 (x k : Nat)) := by show (wr.alloc (.cells #[.int .u32 (x k : Nat), .bool false, .int .i64 0, .int .i64 0, .int .i64 0, .int .i64 0, .int .i64 0] 45)).cell? _ = _; rw [World.cell?_alloc_new]; rfl
                    have z1 : (wr.alloc (.cells #[.int .u32 (x k : Nat), .bool false, .int .i64 0, .int .i64 0, .int .i64 0, .int .i64 0, .int .i64 0] 45)).drew.cell? ⟨wr.heap.size, 1, none⟩ = some (.bool false) := by show (wr.alloc (.cells #[.int .u32 (x k : Nat), .bool false, .int .i64 0, .int .i64 0, .int .i64 0, .int .i64 0, .int .i64 0] 45)).cell? _ = _; rw [World.cell?_alloc_new]; rfl
                    have z2 : (wr.alloc (.cells #[.int .u32 (x k : Nat), .bool false, .int .i64 0, .int .i64 0, .int .i64 0, .int .i64 0, .int .i64 0] 45)).drew.cell? ⟨wr.heap.size, 2, none⟩ = some (.int .i64 0) := by show (wr.alloc (.cells #[.int .u32 (x k : Nat), .bool false, .int .i64 0, .int .i64 0, .int .i64 0, .int .i64 0, .int .i64 0] 45)).cell? _ = _; rw [World.cell?_alloc_new]; rfl
                    have z3 : (wr.alloc (.cells #[.int .u32 (x k : Nat), .bool false, .int .i64 0, .int .i64 0, .int .i64 0, .int .i64 0, .int .i64 0] 45)).drew.cell? ⟨wr.heap.size, 3, none⟩ = some (.int .i64 0) := by show (wr.alloc (.cells #[.int .u32 (x k : Nat), .bool false, .int .i64 0, .int .i64 0, .int .i64 0, .int .i64 0, .int .i64 0] 45)).cell? _ = _; rw [World.cell?_alloc_new]; rfl
                    have z4 : (wr.alloc (.cells #[.int .u32 (x k : Nat), .bool false, .int .i64 0, .int .i64 0, .int .i64 0, .int .i64 0, .int .i64 0] 45)).drew.cell? ⟨wr.heap.size, 4, none⟩ = some (.int .i64 0) := by show (wr.alloc (.cells #[.int .u32 (x k : Nat), .bool false, .int .i64 0, .int .i64 0, .int .i64 0, .int .i64 0, .int .i64 0] 45)).cell? _ = _; rw [World.cell?_alloc_new]; rfl
                    have z5 : (wr.alloc (.cells #[.int .u32 (x k : Nat), .bool false, .int .i64 0, .int .i64 0, .int .i64 0, .int .i64 0, .int .i64 0] 45)).drew.cell? ⟨wr.heap.size, 5, none⟩ = some (.int .i64 0) := by show (wr.alloc (.cells #[.int .u32 (x k : Nat), .bool false, .int .i64 0, .int .i64 0, .int .i64 0, .int .i64 0, .int .i64 0] 45)).cell? _ = _; rw [World.cell?_alloc_new]; rfl
                    have z6 : (wr.alloc (.cells #[.int .u32 (x k : Nat), .bool false, .int .i64 0, .int .i64 0, .int .i64 0, .int .i64 0, .int .i64 0] 45)).drew.cell? ⟨wr.heap.size, 6, none⟩ = some (.int .i64 0) := by show (wr.alloc (.cells #[.int .u32 (x k : Nat), .bool false, .int .i64 0, .int .i64 0, .int .i64 0, .int .i64 0, .int .i64 0] 45)).cell? _ = _; rw [World.cell?_alloc_new]; rfl
                    go_region_held3 (fun w' => w'.cell? ⟨wr.heap.size, 0, none⟩ = some (.int .u32 (x k : Nat)) ∧ w'.cell? ⟨wr.heap.size, 1, none⟩ = some (.bool false) ∧ w'.cell? ⟨wr.heap.size, 2, none⟩ = some (.int .i64 0) ∧ w'.cell? ⟨wr.heap.size, 3, none⟩ = some (.int .i64 0) ∧ w'.cell? ⟨wr.heap.size, 4, none⟩ = some (.int .i64 0) ∧ w'.cell? ⟨wr.heap.size, 5, none⟩ = some (.int .i64 0) ∧ w'.cell? ⟨wr.heap.size, 6, none⟩ = some (.int .i64 0))
                      (first | exact ⟨z0, z1, z2, z3, z4, z5, z6⟩ | exact ⟨cell_later hbn z0, cell_later hbn z1, cell_later hbn z2, cell_later hbn z3, cell_later hbn z4, cell_later hbn z5, cell_later hbn z6⟩)
                      (first | (go_at_call 21; refine hent'.mono ?_; rintro e w1 ⟨rfl, hbn⟩))
                    go_wp2
                    go_roundw
                    case rel => exact ⟨k + 1, by omega, by go_num, hrest _ _ hbn⟩
                    case measure => simp [intOf]; omega
                  | true =>
                    obtain ⟨bb3, oo3, rfl, kk3, q3⟩ := hl3 rfl
                    clear hl1 hl2 hl3
                    simp only [Bool.false_eq_true, ↓reduceIte] at hent
                    have hent' := hent (.cells #[.int .u32 (x k : Nat), .bool false, .int .i64 0, .int .i64 0, .int .i64 (y3 k), .int .i64 0, .int .i64 0] 45)
                    clear hent
                    unfold ent at hent'
                    go_wp2
                    have z0 : (wr.alloc (.cells #[.int .u32 (x k : Nat), .bool false, .int .i64 0, .int .i64 0, .int .i64 (y3 k), .int .i64 0, .int .i64 0] 45)).drew.cell? ⟨wr.heap.size, 0, none⟩ = some (.int .u32 (x k : Nat)) := by show (wr.alloc (.cells #[.int .u32 (x k : Nat), .bool false, .int .i64 0, .int .i64 0, .int .i64 (y3 k), .int .i64 0, .int .i64 0] 45)).cell? _ = _; rw [World.cell?_alloc_new]; rfl
                    have z1 : (wr.alloc (.cells #[.int .u32 (x k : Nat), .bool false, .int .i64 0, .int .i64 0, .int .i64 (y3 k), .int .i64 0, .int .i64 0] 45)).drew.cell? ⟨wr.heap.size, 1, none⟩ = some (.bool false) := by show (wr.alloc (.cells #[.int .u32 (x k : Nat), .bool false, .int .i64 0, .int .i64 0, .int .i64 (y3 k), .int .i64 0, .int .i64 0] 45)).cell? _ = _; rw [World.cell?_alloc_new]; rfl
                    have z2 : (wr.alloc (.cells #[.int .u32 (x k : Nat), .bool false, .int .i64 0, .int .i64 0, .int .i64 (y3 k), .int .i64 0, .int .i64 0] 45)).drew.cell? ⟨wr.heap.size, 2, none⟩ = some (.int .i64 0) := by show (wr.alloc (.cells #[.int .u32 (x k : Nat), .bool false, .int .i64 0, .int .i64 0, .int .i64 (y3 k), .int .i64 0, .int .i64 0] 45)).cell? _ = _; rw [World.cell?_alloc_new]; rfl
                    have z3 : (wr.alloc (.cells #[.int .u32 (x k : Nat), .bool false, .int .i64 0, .int .i64 0, .int .i64 (y3 k), .int .i64 0, .int .i64 0] 45)).drew.cell? ⟨wr.heap.size, 3, none⟩ = some (.int .i64 0) := by show (wr.alloc (.cells #[.int .u32 (x k : Nat), .bool false, .int .i64 0, .int .i64 0, .int .i64 (y3 k), .int .i64 0, .int .i64 0] 45)).cell? _ = _; rw [World.cell?_alloc_new]; rfl
                    have z4 : (wr.alloc (.cells #[.int .u32 (x k : Nat), .bool false, .int .i64 0, .int .i64 0, .int .i64 (y3 k), .int .i64 0, .int .i64 0] 45)).drew.cell? ⟨wr.heap.size, 4, none⟩ = some (.int .i64 (y3 k)) := by show (wr.alloc (.cells #[.int .u32 (x k : Nat), .bool false, .int .i64 0, .int .i64 0, .int .i64 (y3 k), .int .i64 0, .int .i64 0] 45)).cell? _ = _; rw [World.cell?_alloc_new]; rfl
                    have z5 : (wr.alloc (.cells #[.int .u32 (x k : Nat), .bool false, .int .i64 0, .int .i64 0, .int .i64 (y3 k), .int .i64 0, .int .i64 0] 45)).drew.cell? ⟨wr.heap.size, 5, none⟩ = some (.int .i64 0) := by show (wr.alloc (.cells #[.int .u32 (x k : Nat), .bool false, .int .i64 0, .int .i64 0, .int .i64 (y3 k), .int .i64 0, .int .i64 0] 45)).cell? _ = _; rw [World.cell?_alloc_new]; rfl
                    have z6 : (wr.alloc (.cells #[.int .u32 (x k : Nat), .bool false, .int .i64 0, .int .i64 0, .int .i64 (y3 k), .int .i64 0, .int .i64 0] 45)).drew.cell? ⟨wr.heap.size, 6, none⟩ = some (.int .i64 0) := by show (wr.alloc (.cells #[.int .u32 (x k : Nat), .bool false, .int .i64 0, .int .i64 0, .int .i64 (y3 k), .int .i64 0, .int .i64 0] 45)).cell? _ = _; rw [World.cell?_alloc_new]; rfl
                    go_region_held3 (fun w' => w'.cell? ⟨wr.heap.size, 0, none⟩ = some (.int .u32 (x k : Nat)) ∧ w'.cell? ⟨wr.heap.size, 1, none⟩ = some (.bool false) ∧ w'.cell? ⟨wr.heap.size, 2, none⟩ = some (.int .i64 0) ∧ w'.cell? ⟨wr.heap.size, 3, none⟩ = some (.int .i64 0) ∧ w'.cell? ⟨wr.heap.size, 4, none⟩ = some (.int .i64 (y3 k)) ∧ w'.cell? ⟨wr.heap.size, 5, none⟩ = some (.int .i64 0) ∧ w'.cell? ⟨wr.heap.size, 6, none⟩ = some (.int .i64 0))
                      (first | exact ⟨z0, z1, z2, z3, z4, z5, z6⟩ | exact ⟨cell_later hbn z0, cell_later hbn z1, cell_later hbn z2, cell_later hbn z3, cell_later hbn z4, cell_later hbn z5, cell_later hbn z6⟩)
                      (first | (go_at_call 21; refine hent'.mono ?_; rintro e w1 ⟨rfl, hbn⟩))
                    go_wp2
                    go_roundw
                    case rel => exact ⟨k + 1, by omega, by go_num, hrest _ _ hbn⟩
                    case measure => simp [intOf]; omega
                | true =>
                  obtain ⟨bb2, oo2, rfl, kk2, q2⟩ := hl2 rfl
                  cases b3 with
                  | false =>
                    clear hl1 hl2 hl3
                    simp only [Bool.false_eq_true, ↓reduceIte] at hent
                    have hent' := hent (.cells #[.int .u32 (x k : Nat), .bool false, .int .i64 0, .int .i64 (y2 k), .int .i64 0, .int .i64 0, .int .i64 0] 45)
                    clear hent
                    unfold ent at hent'
                    go_wp2
                    have z0 : (wr.alloc (.cells #[.int .u32 (x k : Nat), .bool false, .int .i64 0, .int .i64 (y2 k), .int .i64 0, .int .i64 0, .int .i64 0] 45)).drew.cell? ⟨wr.heap.size, 0, none⟩ = some (.int .u32 (x k : Nat)) := by show (wr.alloc (.cells #[.int .u32 (x k : Nat), .bool false, .int .i64 0, .int .i64 (y2 k), .int .i64 0, .int .i64 0, .int .i64 0] 45)).cell? _ = _; rw [World.cell?_alloc_new]; rfl
                    have z1 : (wr.alloc (.cells #[.int .u32 (x k : Nat), .bool false, .int .i64 0, .int .i64 (y2 k), .int .i64 0, .int .i64 0, .int .i64 0] 45)).drew.cell? ⟨wr.heap.size, 1, none⟩ = some (.bool false) := by show (wr.alloc (.cells #[.int .u32 (x k : Nat), .bool false, .int .i64 0, .int .i64 (y2 k), .int .i64 0, .int .i64 0, .int .i64 0] 45)).cell? _ = _; rw [World.cell?_alloc_new]; rfl
                    have z2 : (wr.alloc (.cells #[.int .u32 (x k : Nat), .bool false, .int .i64 0, .int .i64 (y2 k), .int .i64 0, .int .i64 0, .int .i64 0] 45)).drew.cell? ⟨wr.heap.size, 2, none⟩ = some (.int .i64 0) := by show (wr.alloc (.cells #[.int .u32 (x k : Nat), .bool false, .int .i64 0, .int .i64 (y2 k), .int .i64 0, .int .i64 0, .int .i64 0] 45)).cell? _ = _; rw [World.cell?_alloc_new]; rfl
                    have z3 : (wr.alloc (.cells #[.int .u32 (x k : Nat), .bool false, .int .i64 0, .int .i64 (y2 k), .int .i64 0, .int .i64 0, .int .i64 0] 45)).drew.cell? ⟨wr.heap.size, 3, none⟩ = some (.int .i64 (y2 k)) := by show (wr.alloc (.cells #[.int .u32 (x k : Nat), .bool false, .int .i64 0, .int .i64 (y2 k), .int .i64 0, .int .i64 0, .int .i64 0] 45)).cell? _ = _; rw [World.cell?_alloc_new]; rfl
                    have z4 : (wr.alloc (.cells #[.int .u32 (x k : Nat), .bool false, .int .i64 0, .int .i64 (y2 k), .int .i64 0, .int .i64 0, .int .i64 0] 45)).drew.cell? ⟨wr.heap.size, 4, none⟩ = some (.int .i64 0) := by show (wr.alloc (.cells #[.int .u32 (x k : Nat), .bool false, .int .i64 0, .int .i64 (y2 k), .int .i64 0, .int .i64 0, .int .i64 0] 45)).cell? _ = _; rw [World.cell?_alloc_new]; rfl
                    have z5 : (wr.alloc (.cells #[.int .u32 (x k : Nat), .bool false, .int .i64 0, .int .i64 (y2 k), .int .i64 0, .int .i64 0, .int .i64 0] 45)).drew.cell? ⟨wr.heap.size, 5, none⟩ = some (.int .i64 0) := by show (wr.alloc (.cells #[.int .u32 (x k : Nat), .bool false, .int .i64 0, .int .i64 (y2 k), .int .i64 0, .int .i64 0, .int .i64 0] 45)).cell? _ = _; rw [World.cell?_alloc_new]; rfl
                    have z6 : (wr.alloc (.cells #[.int .u32 (x k : Nat), .bool false, .int .i64 0, .int .i64 (y2 k), .int .i64 0, .int .i64 0, .int .i64 0] 45)).drew.cell? ⟨wr.heap.size, 6, none⟩ = some (.int .i64 0) := by show (wr.alloc (.cells #[.int .u32 (x k : Nat), .bool false, .int .i64 0, .int .i64 (y2 k), .int .i64 0, .int .i64 0, .int .i64 0] 45)).cell? _ = _; rw [World.cell?_alloc_new]; rfl
                    go_region_held3 (fun w' => w'.cell? ⟨wr.heap.size, 0, none⟩ = some (.int .u32 (x k : Nat)) ∧ w'.cell? ⟨wr.heap.size, 1, none⟩ = some (.bool false) ∧ w'.cell? ⟨wr.heap.size, 2, none⟩ = some (.int .i64 0) ∧ w'.cell? ⟨wr.heap.size, 3, none⟩ = some (.int .i64 (y2 k)) ∧ w'.cell? ⟨wr.heap.size, 4, none⟩ = some (.int .i64 0) ∧ w'.cell? ⟨wr.heap.size, 5, none⟩ = some (.int .i64 0) ∧ w'.cell? ⟨wr.heap.size, 6, none⟩ = some (.int .i64 0))
                      (first | exact ⟨z0, z1, z2, z3, z4, z5, z6⟩ | exact ⟨cell_later hbn z0, cell_later hbn z1, cell_later hbn z2, cell_later hbn z3, cell_later hbn z4, cell_later hbn z5, cell_later hbn z6⟩)
                      (first | (go_at_call 21; refine hent'.mono ?_; rintro e w1 ⟨rfl, hbn⟩))
                    go_wp2
                    go_roundw
                    case rel => exact ⟨k + 1, by omega, by go_num, hrest _ _ hbn⟩
                    case measure => simp [intOf]; omega
                  | true =>
                    obtain ⟨bb3, oo3, rfl, kk3, q3⟩ := hl3 rfl
                    clear hl1 hl2 hl3
                    simp only [Bool.false_eq_true, ↓reduceIte] at hent
                    have hent' := hent (.cells #[.int .u32 (x k : Nat), .bool false, .int .i64 0, .int .i64 (y2 k), .int .i64 (y3 k), .int .i64 0, .int .i64 0] 45)
                    clear hent
                    unfold ent at hent'
                    go_wp2
                    have z0 : (wr.alloc (.cells #[.int .u32 (x k : Nat), .bool false, .int .i64 0, .int .i64 (y2 k), .int .i64 (y3 k), .int .i64 0, .int .i64 0] 45)).drew.cell? ⟨wr.heap.size, 0, none⟩ = some (.int .u32 (x k : Nat)) := by show (wr.alloc (.cells #[.int .u32 (x k : Nat), .bool false, .int .i64 0, .int .i64 (y2 k), .int .i64 (y3 k), .int .i64 0, .int .i64 0] 45)).cell? _ = _; rw [World.cell?_alloc_new]; rfl
                    have z1 : (wr.alloc (.cells #[.int .u32 (x k : Nat), .bool false, .int .i64 0, .int .i64 (y2 k), .int .i64 (y3 k), .int .i64 0, .int .i64 0] 45)).drew.cell? ⟨wr.heap.size, 1, none⟩ = some (.bool false) := by show (wr.alloc (.cells #[.int .u32 (x k : Nat), .bool false, .int .i64 0, .int .i64 (y2 k), .int .i64 (y3 k), .int .i64 0, .int .i64 0] 45)).cell? _ = _; rw [World.cell?_alloc_new]; rfl
                    have z2 : (wr.alloc (.cells #[.int .u32 (x k : Nat), .bool false, .int .i64 0, .int .i64 (y2 k), .int .i64 (y3 k), .int .i64 0, .int .i64 0] 45)).drew.cell? ⟨wr.heap.size, 2, none⟩ = some (.int .i64 0) := by show (wr.alloc (.cells #[.int .u32 (x k : Nat), .bool false, .int .i64 0, .int .i64 (y2 k), .int .i64 (y3 k), .int .i64 0, .int .i64 0] 45)).cell? _ = _; rw [World.cell?_alloc_new]; rfl
                    have z3 : (wr.alloc (.cells #[.int .u32 (x k : Nat), .bool false, .int .i64 0, .int .i64 (y2 k), .int .i64 (y3 k), .int .i64 0, .int .i64 0] 45)).drew.cell? ⟨wr.heap.size, 3, none⟩ = some (.int .i64 (y2 k)) := by show (wr.alloc (.cells #[.int .u32 (x k : Nat), .bool false, .int .i64 0, .int .i64 (y2 k), .int .i64 (y3 k), .int .i64 0, .int .i64 0] 45)).cell? _ = _; rw [World.cell?_alloc_new]; rfl
                    have z4 : (wr.alloc (.cells #[.int .u32 (x k : Nat), .bool false, .int .i64 0, .int .i64 (y2 k), .int .i64 (y3 k), .int .i64 0, .int .i64 0] 45)).drew.cell? ⟨wr.heap.size, 4, none⟩ = some (.int .i64 (y3 k)) := by show (wr.alloc (.cells #[.int .u32 (x k : Nat), .bool false, .int .i64 0, .int .i64 (y2 k), .int .i64 (y3 k), .int .i64 0, .int .i64 0] 45)).cell? _ = _; rw [World.cell?_alloc_new]; rfl
                    have z5 : (wr.alloc (.cells #[.int .u32 (x k : Nat), .bool false, .int .i64 0, .int .i64 (y2 k), .int .i64 (y3 k), .int .i64 0, .int .i64 0] 45)).drew.cell? ⟨wr.heap.size, 5, none⟩ = some (.int .i64 0) := by show (wr.alloc (.cells #[.int .u32 (x k : Nat), .bool false, .int .i64 0, .int .i64 (y2 k), .int .i64 (y3 k), .int .i64 0, .int .i64 0] 45)).cell? _ = _; rw [World.cell?_alloc_new]; rfl
                    have z6 : (wr.alloc (.cells #[.int .u32 (x k : Nat), .bool false, .int .i64 0, .int .i64 (y2 k), .int .i64 (y3 k), .int .i64 0, .int .i64 0] 45)).drew.cell? ⟨wr.heap.size, 6, none⟩ = some (.int .i64 0) := by show (wr.alloc (.cells #[.int .u32 (x k : Nat), .bool false, .int .i64 0, .int .i64 (y2 k), .int .i64 (y3 k), .int .i64 0, .int .i64 0] 45)).cell? _ = _; rw [World.cell?_alloc_new]; rfl
                    go_region_held3 (fun w' => w'.cell? ⟨wr.heap.size, 0, none⟩ = some (.int .u32 (x k : Nat)) ∧ w'.cell? ⟨wr.heap.size, 1, none⟩ = some (.bool false) ∧ w'.cell? ⟨wr.heap.size, 2, none⟩ = some (.int .i64 0) ∧ w'.cell? ⟨wr.heap.size, 3, none⟩ = some (.int .i64 (y2 k)) ∧ w'.cell? ⟨wr.heap.size, 4, none⟩ = some (.int .i64 (y3 k)) ∧ w'.cell? ⟨wr.heap.size, 5, none⟩ = some (.int .i64 0) ∧ w'.cell? ⟨wr.heap.size, 6, none⟩ = some (.int .i64 0))
                      (first | exact ⟨z0, z1, z2, z3, z4, z5, z6⟩ | exact ⟨cell_later hbn z0, cell_later hbn z1, cell_later hbn z2, cell_later hbn z3, cell_later hbn z4, cell_later hbn z5, cell_later hbn z6⟩)
                      (first | (go_at_call 21; refine hent'.mono ?_; rintro e w1 ⟨rfl, hbn⟩))
                    go_wp2
                    go_roundw
                    case rel => exact ⟨k + 1, by omega, by go_num, hrest _ _ hbn⟩
                    case measure => simp [intOf]; omega
              | true =>
                obtain ⟨bb1, oo1, rfl, kk1, q1⟩ := hl1 rfl
                cases b2 with
                | false =>
                  cases b3 with
                  | false =>
                    clear hl1 hl2 hl3
                    simp only [Bool.false_eq_true, ↓reduceIte] at hent
                    have hent' := hent (.cells #[.int .u32 (x k : Nat), .bool false, .int .i64 (y1 k), .int .i64 0, .int .i64 0, .int .i64 0, .int .i64 0] 45)
                    clear hent
                    unfold ent at hent'
                    go_wp2
                    have z0 : (wr.alloc (.cells #[.int .u32 (x k : Nat), .bool false, .int .i64 (y1 k), .int .i64 0, .int .i64 0, .int .i64 0, .int .i64 0] 45)).drew.cell? ⟨wr.heap.size, 0, none⟩ = some (.int .u32 (x k : Nat)) := by show (wr.alloc (.cells #[.int .u32 (x k : Nat), .bool false, .int .i64 (y1 k), .int .i64 0, .int .i64 0, .int .i64 0, .int .i64 0] 45)).cell? _ = _; rw [World.cell?_alloc_new]; rfl
                    have z1 : (wr.alloc (.cells #[.int .u32 (x k : Nat), .bool false, .int .i64 (y1 k), .int .i64 0, .int .i64 0, .int .i64 0, .int .i64 0] 45)).drew.cell? ⟨wr.heap.size, 1, none⟩ = some (.bool false) := by show (wr.alloc (.cells #[.int .u32 (x k : Nat), .bool false, .int .i64 (y1 k), .int .i64 0, .int .i64 0, .int .i64 0, .int .i64 0] 45)).cell? _ = _; rw [World.cell?_alloc_new]; rfl
                    have z2 : (wr.alloc (.cells #[.int .u32 (x k : Nat), .bool false, .int .i64 (y1 k), .int .i64 0, .int .i64 0, .int .i64 0, .int .i64 0] 45)).drew.cell? ⟨wr.heap.size, 2, none⟩ = some (.int .i64 (y1 k)) := by show (wr.alloc (.cells #[.int .u32 (x k : Nat), .bool false, .int .i64 (y1 k), .int .i64 0, .int .i64 0, .int .i64 0, .int .i64 0] 45)).cell? _ = _; rw [World.cell?_alloc_new]; rfl
                    have z3 : (wr.alloc (.cells #[.int .u32 (x k : Nat), .bool false, .int .i64 (y1 k), .int .i64 0, .int .i64 0, .int .i64 0, .int .i64 0] 45)).drew.cell? ⟨wr.heap.size, 3, none⟩ = some (.int .i64 0) := by show (wr.alloc (.cells #[.int .u32 (x k : Nat), .bool false, .int .i64 (y1 k), .int .i64 0, .int .i64 0, .int .i64 0, .int .i64 0] 45)).cell? _ = _; rw [World.cell?_alloc_new]; rfl
                    have z4 : (wr.alloc (.cells #[.int .u32 (x k : Nat), .bool false, .int .i64 (y1 k), .int .i64 0, .int .i64 0, .int .i64 0, .int .i64 0] 45)).drew.cell? ⟨wr.heap.size, 4, none⟩ = some (.int .i64 0) := by show (wr.alloc (.cells #[.int .u32 (x k : Nat), .bool false, .int .i64 (y1 k), .int .i64 0, .int .i64 0, .int .i64 0, .int .i64 0] 45)).cell? _ = _; rw [World.cell?_alloc_new]; rfl
                    have z5 : (wr.alloc (.cells #[.int .u32 (x k : Nat), .bool false, .int .i64 (y1 k), .int .i64 0, .int .i64 0, .int .i64 0, .int .i64 0] 45)).drew.cell? ⟨wr.heap.size, 5, none⟩ = some (.int .i64 0) := by show (wr.alloc (.cells #[.int .u32 (x k : Nat), .bool false, .int .i64 (y1 k), .int .i64 0, .int .i64 0, .int .i64 0, .int .i64 0] 45)).cell? _ = _; rw [World.cell?_alloc_new]; rfl
                    have z6 : (wr.alloc (.cells #[.int .u32 (x k : Nat), .bool false, .int .i64 (y1 k), .int .i64 0, .int .i64 0, .int .i64 0, .int .i64 0] 45)).drew.cell? ⟨wr.heap.size, 6, none⟩ = some (.int .i64 0) := by show (wr.alloc (.cells #[.int .u32 (x k : Nat), .bool false, .int .i64 (y1 k), .int .i64 0, .int .i64 0, .int .i64 0, .int .i64 0] 45)).cell? _ = _; rw [World.cell?_alloc_new]; rfl
                    go_region_held3 (fun w' => w'.cell? ⟨wr.heap.size, 0, none⟩ = some (.int .u32 (x k : Nat)) ∧ w'.cell? ⟨wr.heap.size, 1, none⟩ = some (.bool false) ∧ w'.cell? ⟨wr.heap.size, 2, none⟩ = some (.int .i64 (y1 k)) ∧ w'.cell? ⟨wr.heap.size, 3, none⟩ = some (.int .i64 0) ∧ w'.cell? ⟨wr.heap.size, 4, none⟩ = some (.int .i64 0) ∧ w'.cell? ⟨wr.heap.size, 5, none⟩ = some (.int .i64 0) ∧ w'.cell? ⟨wr.heap.size, 6, none⟩ = some (.int .i64 0))
                      (first | exact ⟨z0, z1, z2, z3, z4, z5, z6⟩ | exact ⟨cell_later hbn z0, cell_later hbn z1, cell_later hbn z2, cell_later hbn z3, cell_later hbn z4, cell_later hbn z5, cell_later hbn z6⟩)
                      (first | (go_at_call 21; refine hent'.mono ?_; rintro e w1 ⟨rfl, hbn⟩))
                    go_wp2
                    go_roundw
                    case rel => exact ⟨k + 1, by omega, by go_num, hrest _ _ hbn⟩
                    case measure => simp [intOf]; omega
                  | true =>
                    obtain ⟨bb3, oo3, rfl, kk3, q3⟩ := hl3 rfl
                    clear hl1 hl2 hl3
                    simp only [Bool.false_eq_true, ↓reduceIte] at hent
                    have hent' := hent (.cells #[.int .u32 (x k : Nat), .bool false, .int .i64 (y1 k), .int .i64 0, .int .i64 (y3 k), .int .i64 0, .int .i64 0] 45)
                    clear hent
                    unfold ent at hent'
                    go_wp2
                    have z0 : (wr.alloc (.cells #[.int .u32 (x k : Nat), .bool false, .int .i64 (y1 k), .int .i64 0, .int .i64 (y3 k), .int .i64 0, .int .i64 0] 45)).drew.cell? ⟨wr.heap.size, 0, none⟩ = some (.int .u32 (x k : Nat)) := by show (wr.alloc (.cells #[.int .u32 (x k : Nat), .bool false, .int .i64 (y1 k), .int .i64 0, .int .i64 (y3 k), .int .i64 0, .int .i64 0] 45)).cell? _ = _; rw [World.cell?_alloc_new]; rfl
                    have z1 : (wr.alloc (.cells #[.int .u32 (x k : Nat), .bool false, .int .i64 (y1 k), .int .i64 0, .int .i64 (y3 k), .int .i64 0, .int .i64 0] 45)).drew.cell? ⟨wr.heap.size, 1, none⟩ = some (.bool false) := by show (wr.alloc (.cells #[.int .u32 (x k : Nat), .bool false, .int .i64 (y1 k), .int .i64 0, .int .i64 (y3 k), .int .i64 0, .int .i64 0] 45)).cell? _ = _; rw [World.cell?_alloc_new]; rfl
                    have z2 : (wr.alloc (.cells #[.int .u32 (x k : Nat), .bool false, .int .i64 (y1 k), .int .i64 0, .int .i64 (y3 k), .int .i64 0, .int .i64 0] 45)).drew.cell? ⟨wr.heap.size, 2, none⟩ = some (.int .i64 (y1 k)) := by show (wr.alloc (.cells #[.int .u32 (x k : Nat), .bool false, .int .i64 (y1 k), .int .i64 0, .int .i64 (y3 k), .int .i64 0, .int .i64 0] 45)).cell? _ = _; rw [World.cell?_alloc_new]; rfl
                    have z3 : (wr.alloc (.cells #[.int .u32 (x k : Nat), .bool false, .int .i64 (y1 k), .int .i64 0, .int .i64 (y3 k), .int .i64 0, .int .i64 0] 45)).drew.cell? ⟨wr.heap.size, 3, none⟩ = some (.int .i64 0) := by show (wr.alloc (.cells #[.int .u32 (x k : Nat), .bool false, .int .i64 (y1 k), .int .i64 0, .int .i64 (y3 k), .int .i64 0, .int .i64 0] 45)).cell? _ = _; rw [World.cell?_alloc_new]; rfl
                    have z4 : (wr.alloc (.cells #[.int .u32 (x k : Nat), .bool false, .int .i64 (y1 k), .int .i64 0, .int .i64 (y3 k), .int .i64 0, .int .i64 0] 45)).drew.cell? ⟨wr.heap.size, 4, none⟩ = some (.int .i64 (y3 k)) := by show (wr.alloc (.cells #[.int .u32 (x k : Nat), .bool false, .int .i64 (y1 k), .int .i64 0, .int .i64 (y3 k), .int .i64 0, .int .i64 0] 45)).cell? _ = _; rw [World.cell?_alloc_new]; rfl
                    have z5 : (wr.alloc (.cells #[.int .u32 (x k : Nat), .bool false, .int .i64 (y1 k), .int .i64 0, .int .i64 (y3 k), .int .i64 0, .int .i64 0] 45)).drew.cell? ⟨wr.heap.size, 5, none⟩ = some (.int .i64 0) := by show (wr.alloc (.cells #[.int .u32 (x k : Nat), .bool false, .int .i64 (y1 k), .int .i64 0, .int .i64 (y3 k), .int .i64 0, .int .i64 0] 45)).cell? _ = _; rw [World.cell?_alloc_new]; rfl
                    have z6 : (wr.alloc (.cells #[.int .u32 (x k : Nat), .bool false, .int .i64 (y1 k), .int .i64 0, .int .i64 (y3 k), .int .i64 0, .int .i64 0] 45)).drew.cell? ⟨wr.heap.size, 6, none⟩ = some (.int .i64 0) := by show (wr.alloc (.cells #[.int .u32 (x k : Nat), .bool false, .int .i64 (y1 k), .int .i64 0, .int .i64 (y3 k), .int .i64 0, .int .i64 0] 45)).cell? _ = _; rw [World.cell?_alloc_new]; rfl
                    go_region_held3 (fun w' => w'.cell? ⟨wr.heap.size, 0, none⟩ = some (.int .u32 (x k : Nat)) ∧ w'.cell? ⟨wr.heap.size, 1, none⟩ = some (.bool false) ∧ w'.cell? ⟨wr.heap.size, 2, none⟩ = some (.int .i64 (y1 k)) ∧ w'.cell? ⟨wr.heap.size, 3, none⟩ = some (.int .i64 0) ∧ w'.cell? ⟨wr.heap.size, 4, none⟩ = some (.int .i64 (y3 k)) ∧ w'.cell? ⟨wr.heap.size, 5, none⟩ = some (.int .i64 0) ∧ w'.cell? ⟨wr.heap.size, 6, none⟩ = some (.int .i64 0))
                      (first | exact ⟨z0, z1, z2, z3, z4, z5, z6⟩ | exact ⟨cell_later hbn z0, cell_later hbn z1, cell_later hbn z2, cell_later hbn z3, cell_later hbn z4, cell_later hbn z5, cell_later hbn z6⟩)
                      (first | (go_at_call 21; refine hent'.mono ?_; rintro e w1 ⟨rfl, hbn⟩))
                    go_wp2
                    go_roundw
                    case rel => exact ⟨k + 1, by omega, by go_num, hrest _ _ hbn⟩
                    case measure => simp [intOf]; omega
                | true =>
                  obtain ⟨bb2, oo2, rfl, kk2, q2⟩ := hl2 rfl
                  cases b3 with
                  | false =>
                    clear hl1 hl2 hl3
                    simp only [Bool.false_eq_true, ↓reduceIte] at hent
                    have hent' := hent (.cells #[.int .u32 (x k : Nat), .bool false, .int .i64 (y1 k), .int .i64 (y2 k), .int .i64 0, .int .i64 0, .int .i64 0] 45)
                    clear hent
                    unfold ent at hent'
                    go_wp2
                    have z0 : (wr.alloc (.cells #[.int .u32 (x k : Nat), .bool false, .int .i64 (y1 k), .int .i64 (y2 k), .int .i64 0, .int .i64 0, .int .i64 0] 45)).drew.cell? ⟨wr.heap.size, 0, none⟩ = some (.int .u32 (x k : Nat)) := by show (wr.alloc (.cells #[.int .u32 (x k : Nat), .bool false, .int .i64 (y1 k), .int .i64 (y2 k), .int .i64 0, .int .i64 0, .int .i64 0] 45)).cell? _ = _; rw [World.cell?_alloc_new]; rfl
                    have z1 : (wr.alloc (.cells #[.int .u32 (x k : Nat), .bool false, .int .i64 (y1 k), .int .i64 (y2 k), .int .i64 0, .int .i64 0, .int .i64 0] 45)).drew.cell? ⟨wr.heap.size, 1, none⟩ = some (.bool false) := by show (wr.alloc (.cells #[.int .u32 (x k : Nat), .bool false, .int .i64 (y1 k), .int .i64 (y2 k), .int .i64 0, .int .i64 0, .int .i64 0] 45)).cell? _ = _; rw [World.cell?_alloc_new]; rfl
                    have z2 : (wr.alloc (.cells #[.int .u32 (x k : Nat), .bool false, .int .i64 (y1 k), .int .i64 (y2 k), .int .i64 0, .int .i64 0, .int .i64 0] 45)).drew.cell? ⟨wr.heap.size, 2, none⟩ = some (.int .i64 (y1 k)) := by show (wr.alloc (.cells #[.int .u32 (x k : Nat), .bool false, .int .i64 (y1 k), .int .i64 (y2 k), .int .i64 0, .int .i64 0, .int .i64 0] 45)).cell? _ = _; rw [World.cell?_alloc_new]; rfl
                    have z3 : (wr.alloc (.cells #[.int .u32 (x k : Nat), .bool false, .int .i64 (y1 k), .int .i64 (y2 k), .int .i64 0, .int .i64 0, .int .i64 0] 45)).drew.cell? ⟨wr.heap.size, 3, none⟩ = some (.int .i64 (y2 k)) := by show (wr.alloc (.cells #[.int .u32 (x k : Nat), .bool false, .int .i64 (y1 k), .int .i64 (y2 k), .int .i64 0, .int .i64 0, .int .i64 0] 45)).cell? _ = _; rw [World.cell?_alloc_new]; rfl
                    have z4 : (wr.alloc (.cells #[.int .u32 (x k : Nat), .bool false, .int .i64 (y1 k), .int .i64 (y2 k), .int .i64 0, .int .i64 0, .int .i64 0] 45)).drew.cell? ⟨wr.heap.size, 4, none⟩ = some (.int .i64 0) := by show (wr.alloc (.cells #[.int .u32 (x k : Nat), .bool false, .int .i64 (y1 k), .int .i64 (y2 k), .int .i64 0, .int .i64 0, .int .i64 0] 45)).cell? _ = _; rw [World.cell?_alloc_new]; rfl
                    have z5 : (wr.alloc (.cells #[.int .u32 (x k : Nat), .bool false, .int .i64 (y1 k), .int .i64 (y2 k), .int .i64 0, .int .i64 0, .int .i64 0] 45)).drew.cell? ⟨wr.heap.size, 5, none⟩ = some (.int .i64 0) := by show (wr.alloc (.cells #[.int .u32 (x k : Nat), .bool false, .int .i64 (y1 k), .int .i64 (y2 k), .int .i64 0, .int .i64 0, .int .i64 0] 45)).cell? _ = _; rw [World.cell?_alloc_new]; rfl
                    have z6 : (wr.alloc (.cells #[.int .u32 (x k : Nat), .bool false, .int .i64 (y1 k), .int .i64 (y2 k), .int .i64 0, .int .i64 0, .int .i64 0] 45)).drew.cell? ⟨wr.heap.size, 6, none⟩ = some (.int .i64 0) := by show (wr.alloc (.cells #[.int .u32 (x k : Nat), .bool false, .int .i64 (y1 k), .int .i64 (y2 k), .int .i64 0, .int .i64 0, .int .i64 0] 45)).cell? _ = _; rw [World.cell?_alloc_new]; rfl
                    go_region_held3 (fun w' => w'.cell? ⟨wr.heap.size, 0, none⟩ = some (.int .u32 (x k : Nat)) ∧ w'.cell? ⟨wr.heap.size, 1, none⟩ = some (.bool false) ∧ w'.cell? ⟨wr.heap.size, 2, none⟩ = some (.int .i64 (y1 k)) ∧ w'.cell? ⟨wr.heap.size, 3, none⟩ = some (.int .i64 (y2 k)) ∧ w'.cell? ⟨wr.heap.size, 4, none⟩ = some (.int .i64 0) ∧ w'.cell? ⟨wr.heap.size, 5, none⟩ = some (.int .i64 0) ∧ w'.cell? ⟨wr.heap.size, 6, none⟩ = some (.int .i64 0))
                      (first | exact ⟨z0, z1, z2, z3, z4, z5, z6⟩ | exact ⟨cell_later hbn z0, cell_later hbn z1, cell_later hbn z2, cell_later hbn z3, cell_later hbn z4, cell_later hbn z5, cell_later hbn z6⟩)
                      (first | (go_at_call 21; refine hent'.mono ?_; rintro e w1 ⟨rfl, hbn⟩))
                    go_wp2
                    go_roundw
                    case rel => exact ⟨k + 1, by omega, by go_num, hrest _ _ hbn⟩
                    case measure => simp [intOf]; omega
                  | true =>
                    obtain ⟨bb3, oo3, rfl, kk3, q3⟩ := hl3 rfl
                    clear hl1 hl2 hl3
                    simp only [Bool.false_eq_true, ↓reduceIte] at hent
                    have hent' := hent (.cells #[.int .u32 (x k : Nat), .bool false, .int .i64 (y1 k), .int .i64 (y2 k), .int .i64 (y3 k), .int .i64 0, .int .i64 0] 45)
                    clear hent
                    unfold ent at hent'
                    go_wp2
                    have z0 : (wr.alloc (.cells #[.int .u32 (x k : Nat), .bool false, .int .i64 (y1 k), .int .i64 (y2 k), .int .i64 (y3 k), .int .i64 0, .int .i64 0] 45)).drew.cell? ⟨wr.heap.size, 0, none⟩ = some (.int .u32 (x k : Nat)) := by show (wr.alloc (.cells #[.int .u32 (x k : Nat), .bool false, .int .i64 (y1 k), .int .i64 (y2 k), .int .i64 (y3 k), .int .i64 0, .int .i64 0] 45)).cell? _ = _; rw [World.cell?_alloc_new]; rfl
                    have z1 : (wr.alloc (.cells #[.int .u32 (x k : Nat), .bool false, .int .i64 (y1 k), .int .i64 (y2 k), .int .i64 (y3 k), .int .i64 0, .int .i64 0] 45)).drew.cell? ⟨wr.heap.size, 1, none⟩ = some (.bool false) := by show (wr.alloc (.cells #[.int .u32 (x k : Nat), .bool false, .int .i64 (y1 k), .int .i64 (y2 k), .int .i64 (y3 k), .int .i64 0, .int .i64 0] 45)).cell? _ = _; rw [World.cell?_alloc_new]; rfl
                    have z2 : (wr.alloc (.cells #[.int .u32 (x k : Nat), .bool false, .int .i64 (y1 k), .int .i64 (y2 k), .int .i64 (y3 k), .int .i64 0, .int .i64 0] 45)).drew.cell? ⟨wr.heap.size, 2, none⟩ = some (.int .i64 (y1 k)) := by show (wr.alloc (.cells #[.int .u32 (x k : Nat), .bool false, .int .i64 (y1 k), .int .i64 (y2 k), .int .i64 (y3 k), .int .i64 0, .int .i64 0] 45)).cell? _ = _; rw [World.cell?_alloc_new]; rfl
                    have z3 : (wr.alloc (.cells #[.int .u32 (x k : Nat), .bool false, .int .i64 (y1 k), .int .i64 (y2 k), .int .i64 (y3 k), .int .i64 0, .int .i64 0] 45)).drew.cell? ⟨wr.heap.size, 3, none⟩ = some (.int .i64 (y2 k)) := by show (wr.alloc (.cells #[.int .u32 (x k : Nat), .bool false, .int .i64 (y1 k), .int .i64 (y2 k), .int .i64 (y3 k), .int .i64 0, .int .i64 0] 45)).cell? _ = _; rw [World.cell?_alloc_new]; rfl
                    have z4 : (wr.alloc (.cells #[.int .u32 (x k : Nat), .bool false, .int .i64 (y1 k), .int .i64 (y2 k), .int .i64 (y3 k), .int .i64 0, .int .i64 0] 45)).drew.cell? ⟨wr.heap.size, 4, none⟩ = some (.int .i64 (y3 k)) := by show (wr.alloc (.cells #[.int .u32 (x k : Nat), .bool false, .int .i64 (y1 k), .int .i64 (y2 k), .int .i64 (y3 k), .int .i64 0, .int .i64 0] 45)).cell? _ = _; rw [World.cell?_alloc_new]; rfl
                    have z5 : (wr.alloc (.cells #[.int .u32 (x k : Nat), .bool false, .int .i64 (y1 k), .int .i64 (y2 k), .int .i64 (y3 k), .int .i64 0, .int .i64 0] 45)).drew.cell? ⟨wr.heap.size, 5, none⟩ = some (.int .i64 0) := by show (wr.alloc (.cells #[.int .u32 (x k : Nat), .bool false, .int .i64 (y1 k), .int .i64 (y2 k), .int .i64 (y3 k), .int .i64 0, .int .i64 0] 45)).cell? _ = _; rw [World.cell?_alloc_new]; rfl
                    have z6 : (wr.alloc (.cells #[.int .u32 (x k : Nat), .bool false, .int .i64 (y1 k), .int .i64 (y2 k), .int .i64 (y3 k), .int .i64 0, .int .i64 0] 45)).drew.cell? ⟨wr.heap.size, 6, none⟩ = some (.int .i64 0) := by show (wr.alloc (.cells #[.int .u32 (x k : Nat), .bool false, .int .i64 (y1 k), .int .i64 (y2 k), .int .i64 (y3 k), .int .i64 0, .int .i64 0] 45)).cell? _ = _; rw [World.cell?_alloc_new]; rfl
                    go_region_held3 (fun w' => w'.cell? ⟨wr.heap.size, 0, none⟩ = some (.int .u32 (x k : Nat)) ∧ w'.cell? ⟨wr.heap.size, 1, none⟩ = some (.bool false) ∧ w'.cell? ⟨wr.heap.size, 2, none⟩ = some (.int .i64 (y1 k)) ∧ w'.cell? ⟨wr.heap.size, 3, none⟩ = some (.int .i64 (y2 k)) ∧ w'.cell? ⟨wr.heap.size, 4, none⟩ = some (.int .i64 (y3 k)) ∧ w'.cell? ⟨wr.heap.size, 5, none⟩ = some (.int .i64 0) ∧ w'.cell? ⟨wr.heap.size, 6, none⟩ = some (.int .i64 0))
                      (first | exact ⟨z0, z1, z2, z3, z4, z5, z6⟩ | exact ⟨cell_later hbn z0, cell_later hbn z1, cell_later hbn z2, cell_later hbn z3, cell_later hbn z4, cell_later hbn z5, cell_later hbn z6⟩)
                      (first | (go_at_call 21; refine hent'.mono ?_; rintro e w1 ⟨rfl, hbn⟩))
                    go_wp2
                    go_roundw
                    case rel => exact ⟨k + 1, by omega, by go_num, hrest _ _ hbn⟩
                    case measure => simp [intOf]; omega
            · go_wp2
              go_ret
              exact ⟨rfl, hbw.trans (hb.mono hbw.size)⟩
end Go.Proofs.Qxb6605736a
