import Derived.Test.Qxb6605986aDoorRows
import Derived.WalkKit
import Derived.WalkSpells
import Derived.WalkLawsBesides
import Derived.RegionTactic
import Derived.Deep.QuietTactic
import Derived.BigQuiet
import Derived.LoopTactic
import Derived.Deep.Draws
import Derived.Deep.OwnRows
import Derived.Below
import Derived.Outline
import Derived.LaidEql
import Derived.Stop.Asserts
import Derived.RowKitTokens
import Derived.Laws.IdiomCopy
namespace Go.Proofs.Qxb6605986aDoor
open Go.RowKit Go.Deep

theorem cell_set1 {w : World} {g o j : Nat} {v x : Value} (h : w.cell? ⟨g, j, none⟩ = some x) : (w.setCell ⟨g, o, none⟩ v).cell? ⟨g, j, none⟩ = some (if j = o then v else x) := by
  by_cases e : j = o
  · subst e; rw [if_pos rfl]; exact World.cell?_setCell_same _ _ _ h
  · rw [if_neg e, World.cell?_setCell_other _ _ _ _ (fun q => e (by injection q with _ q2 _; exact q2.symm))]; exact h

/-- A slice of bytes: its elements by a function. -/
def In8 (w : World) (a : Option Addr) (len : Nat) (y : Nat → Int) : Prop :=
  len = 0 ∨ ∃ b off, a = some ⟨b, off, none⟩ ∧ ∀ j, j < len → w.cell? ⟨b, off + j, none⟩ = some (.int .u8 (y j))

theorem In8.later {w w' : World} {a : Option Addr} {len : Nat} {y : Nat → Int} (h : In8 w a len y) (hb : Below w.heap.size w w') : In8 w' a len y := by
  rcases h with h | ⟨b, off, e, hc⟩
  · exact .inl h
  · exact .inr ⟨b, off, e, fun j hj => cell_later hb (hc j hj)⟩

/-- A row of bytes of the call's own. -/
def Arr8 (w : World) (g len : Nat) (y : Nat → Int) : Prop := ∀ j, j < len → w.cell? ⟨g, j, none⟩ = some (.int .u8 (y j)) ∧ w.frozen? ⟨g, j, none⟩ = false

theorem Arr8.kept {w w' : World} {g len : Nat} {y : Nat → Int} (h : Arr8 w g len y) (hb : w'.heap[g]? = w.heap[g]?) : Arr8 w' g len y := fun j hj =>
  ⟨(World.cell?_of_block hb).trans (h j hj).1, (World.frozen?_of_block hb).trans (h j hj).2⟩
theorem Arr8.later {w w' : World} {g len : Nat} {y : Nat → Int} (h : Arr8 w g len y) (hb : Below w.heap.size w w') (hg : g < w.heap.size) : Arr8 w' g len y := h.kept (hb.block g hg)

theorem Tryd.info5 : (Tryd.prog.info? 5).map (fun i => (i.zero, i.size, i.bytes)) = some (some (.int .u8 0), 1, 1) := by kernel_rfl
theorem Tryd.size5 : (Tryd.prog.info? 5).map (·.size) = some 1 := by kernel_rfl

/-- The block of 'make([]byte, n)'. -/
def byteObj (n : Nat) : Obj := .cells (madeCells #[.int .u8 0] n) 5

theorem arr8_made (w : World) (n : Nat) (y : Nat → Int) : Arr8 (w.alloc (byteObj n)) w.heap.size n (fun j => if j < 0 then y j else 0) := fun j hj => by
  unfold byteObj
  refine ⟨?_, World.frozen?_alloc_new w _ _ j⟩
  rw [World.cell?_alloc_new]
  simp [madeCells, hj, Nat.mod_one]

theorem arr8_set {w : World} {g len k : Nat} {y : Nat → Int} (h : Arr8 w g len (fun j => if j < k then y j else 0)) : Arr8 (w.setCell ⟨g, k, none⟩ (.int .u8 (y k))) g len (fun j => if j < k + 1 then y j else 0) := fun j hj => by
  obtain ⟨h1, h2⟩ := h j hj
  refine ⟨?_, by rw [World.frozen?_setCell]; exact h2⟩
  rw [cell_set1 h1]
  by_cases e : j = k
  · subst e; simp only [if_pos (Nat.lt_succ_self j)]; rfl
  · by_cases hk : j < k
    · simp only [if_neg e, if_pos hk, if_pos (show j < k + 1 by omega)]
    · simp only [if_neg e, if_neg hk, if_neg (show ¬ j < k + 1 by omega)]

/-- What zzCloneBytes hands back: nil, or a row of its own. -/
def Cl (w w' : World) (a : Option Addr) (len cap : Nat) (y : Nat → Int) : Prop :=
  (a = none ∧ len = 0 ∧ cap = 0) ∨ ∃ g, a = some ⟨g, 0, none⟩ ∧ cap = len ∧ w.heap.size ≤ g ∧ g < w'.heap.size ∧ Arr8 w' g len y

theorem hmk22 (len : Nat) (hlen : len ≤ 1048576) (w' : World) : (Instr.makeSlice 22 (.int .i64 len) (.int .i64 len)).run Tryd.prog w' = .ok (.slice (some ⟨w'.heap.size, 0, none⟩) len len) (w'.alloc (byteObj len)) :=
  run_make_row' (P := Tryd.prog) 22 5 (.int .u8 0) 1 Tryd.underlying22 Tryd.info5 rfl .i64 .i64 len (by omega) (by omega) w'

set_option maxHeartbeats 1600000 in
/-- zzCloneBytes. -/
theorem clone6 (a : Option Addr) (len cap : Nat) (y : Nat → Int) (w : World) (hin : In8 w a len y) (hlen : len ≤ 1048576) :
    Calls Tryd.prog 6 #[.slice a len cap] w fun e w' => ∃ a' c', e = .returned (.slice a' len c') ∧ Cl w w' a' len c' y ∧ Below w.heap.size w w' := by
  have hnil := fun w' : World => Lib.run_eql_slice_nil (P := Tryd.prog) w' 22 5 a len cap 0 0 Tryd.underlying22
  have hmk := hmk22 len hlen
  cases a with
  | none =>
    have hl : len = 0 := by
      rcases hin with h | ⟨b, off, e, _⟩
      · exact h
      · cases e
    subst hl
    go_enter Tryd.func6, Tryd.ntmps6
    go_wp2
    go_ret
    exact ⟨none, 0, rfl, .inl ⟨rfl, rfl, rfl⟩, Below.refl _ _⟩
  | some ad =>
    go_enter Tryd.func6, Tryd.ntmps6
    go_wp2
    have h0 : Arr8 (w.alloc (byteObj len)) w.heap.size len (fun j => if j < 0 then y j else 0) := arr8_made w len y
    have hb0 : Below w.heap.size w (w.alloc (byteObj len)) := (Below.refl _ _).alloc (Nat.le_refl _) _
    have hs0 : w.heap.size < (w.alloc (byteObj len)).heap.size := by rw [World.size_alloc]; omega
    go_loopw [4] (fun i wr => ∃ k : Nat, k ≤ len ∧ i = .int .i64 k ∧ Arr8 wr w.heap.size len (fun j => if j < k then y j else 0) ∧ Below w.heap.size w wr ∧ w.heap.size < wr.heap.size) (fun i _ => len - (intOf i).toNat)
    case atStart => exact ⟨0, Nat.zero_le _, rfl, h0, hb0, hs0⟩
    case round =>
      obtain ⟨k, hk, rfl, hA, hb, hsz⟩ := hrel
      clear h0 hb0 hmk hs0
      by_cases hk2 : k < len
      · rcases hin with h0 | ⟨b, off, e, hc⟩
        · omega
        cases e
        have hcr := cell_later hb (hc k hk2)
        obtain ⟨y1, y2⟩ := hA k hk2
        have hk3 : (k : Int) < (len : Int) := by omega
        go_wp2
        go_roundw
        case rel => exact ⟨k + 1, by omega, by go_num, arr8_set hA, hb.setCell (Nat.le_refl _) _, by rw [World.size_setCell]; exact hsz⟩
        case measure => simp [intOf]; omega
      · have e : len = k := by omega
        subst e
        go_wp2
        go_ret
        exact ⟨_, _, rfl, .inr ⟨w.heap.size, rfl, rfl, Nat.le_refl _, hsz, fun j hj => by have := hA j hj; simp only [if_pos hj] at this; exact this⟩, hb⟩

set_option maxHeartbeats 1600000 in
/-- zzEqualBytes at two slices of the same bytes. -/
theorem equal10 (a b : Option Addr) (len ca cb : Nat) (y : Nat → Int) (w : World) (ha : In8 w a len y) (hb : In8 w b len y) (hlen : len ≤ 1048576) :
    Calls Tryd.prog 10 #[.slice a len ca, .slice b len cb] w fun e w' => e = .returned (.bool true) ∧ ∃ m, w' = w.drewN m := by
  go_enter Tryd.func10, Tryd.ntmps10
  go_wp2
  go_loopw [5] (fun i wr => ∃ k m : Nat, k ≤ len ∧ i = .int .i64 k ∧ wr = w.drewN m) (fun i _ => len - (intOf i).toNat)
  case atStart => exact ⟨0, 0, Nat.zero_le _, rfl, rfl⟩
  case round =>
    obtain ⟨k, m, hk, rfl, rfl⟩ := hrel
    by_cases hk2 : k < len
    · rcases ha with h0 | ⟨b1, o1, rfl, h1⟩
      · omega
      rcases hb with h0 | ⟨b2, o2, rfl, h2⟩
      · omega
      have c1 := h1 k hk2
      have c2 := h2 k hk2
      have hk3 : (k : Int) < (len : Int) := by omega
      clear h1 h2
      go_wp2
      go_quiet (fail)
      go_wp2
      go_roundw
      case rel => exact ⟨k + 1, m + nq, by omega, by go_num, rfl⟩
      case measure => simp [intOf]; omega
    · go_wp2
      go_ret
      exact ⟨rfl, m, rfl⟩

/-! ### errors.Is(io.EOF, io.EOF) -/
theorem callTypeOf (v : Value) (w : World) : (callFunc 17 #[.iface 63 v]).run Tryd.prog w = .ok (.value (.iface 53 (.agg #[.pointer (some ⟨2, 63, none⟩)]))) w := by kernel_rfl
theorem callComparable (w : World) : (callFunc 39 #[.agg #[.pointer (some ⟨2, 63, none⟩)]]).run Tryd.prog w = .ok (.value (.bool true)) w := by kernel_rfl
theorem isMethodComparable (v : Value) (w : World) : (Go.method 201 53 v "Comparable").run Tryd.prog w = .ok (39, v) w := by kernel_rfl
theorem isComp : (Tryd.prog.info? 63).map (·.comparable) = some true := by kernel_rfl
theorem isSize : (Tryd.prog.info? 89).map (·.size) = some 1 := by kernel_rfl

set_option maxHeartbeats 1600000 in
/-- errors.Is(x, x), x a pointer to an errors.errorString. -/
theorem is_same (a : Addr) (w : World) :
    Calls Tryd.prog 16 #[.iface 63 (.pointer (some a)), .iface 63 (.pointer (some a))] w fun e w' => e = .returned (.bool true) ∧ w' = w := by
  obtain ⟨i, hi, hcmp⟩ := Option.map_eq_some_iff.1 isComp
  obtain ⟨j, hj, hjs⟩ := Option.map_eq_some_iff.1 isSize
  have h8 := callTypeOf (.pointer (some a))
  have h32 := callComparable
  have mR := isMethodComparable
  have heq := run_eql_iface_ptr_same (P := Tryd.prog) w a Tryd.underlying29 Tryd.underlying63 hi hcmp hj
  go_enter Tryd.func16, Tryd.ntmps16
  go_wp2
  refine wp_loop_rounds 1 ?_
  rw [rounds_succ]
  go_wp2
  go_ret
  exact ⟨rfl, rfl⟩

/-! ### (*memory).ReadAt -/
set_option maxHeartbeats 1600000 in
/-- From behind the end: 0 and io.EOF. -/
theorem readAt_end (mb : Nat) (ab : Option Addr) (lb cb : Nat) (aq : Option Addr) (lq cq : Nat) (o : Nat) (a0 : Addr) (w : World) (c0 : w.cell? ⟨mb, 0, none⟩ = some (.slice ab lb cb)) (hg : w.cell? ⟨0, 0, none⟩ = some (.iface 63 (.pointer (some a0)))) (ho : lb ≤ o) :
    Calls Tryd.prog 35 #[.pointer (some ⟨mb, 0, none⟩), .slice aq lq cq, .int .i64 o] w fun e w' => e = .returned (.tuple #[.int .i64 0, .iface 63 (.pointer (some a0))]) ∧ ∃ m, w' = w.drewN m := by
  have k1 : (lb : Int) ≤ (o : Int) := by omega
  go_enter Tryd.func35, Tryd.ntmps35
  go_wp2
  go_quiet (fail)
  go_wp2
  go_ret2
  exact ⟨rfl, nq, rfl⟩

set_option maxHeartbeats 1600000 in
/-- Into no room: 0 and no error. -/
theorem readAt_none (mb gb : Nat) (lb : Nat) (aq : Option Addr) (cq : Nat) (o : Nat) (w : World) (c0 : w.cell? ⟨mb, 0, none⟩ = some (.slice (some ⟨gb, 0, none⟩) lb lb)) (ho : o < lb) :
    Calls Tryd.prog 35 #[.pointer (some ⟨mb, 0, none⟩), .slice aq 0 cq, .int .i64 o] w fun e w' => e = .returned (.tuple #[.int .i64 0, .nilIface]) ∧ w' = w := by
  have k1 : ¬ (lb : Int) ≤ (o : Int) := by omega
  have k2 : ¬ lb = o := by omega
  have k3 : (o : Int) ≤ (lb : Int) := by omega
  have hcp := run_copy_none (P := Tryd.prog) w 22 22 3 5 aq (some ⟨gb, o, none⟩) 0 cq (lb - o) (lb - o) Tryd.underlying22 Tryd.size5 (Nat.min_eq_right (Nat.zero_le _))
  go_enter Tryd.func35, Tryd.ntmps35
  go_wp2
  go_ret2
  exact ⟨rfl, rfl⟩

/-- The bytes that go over. -/
def cpy (yb : Nat → Int) (o k : Nat) : List Value := (List.range k).map fun j => Value.int .u8 (yb (o + j))

theorem grown_setCells (b : Nat) : ∀ (vs : List Value) (o : Nat) (w : World), w.grownBy (w.setCells b o vs) (some b)
  | [], _, w => ⟨rfl, rfl, rfl, Nat.le_refl _, fun _ _ _ => rfl⟩
  | v :: r, o, w => by
    have h := grown_setCells b r (o + 1) (w.setCell ⟨b, o, none⟩ v)
    refine ⟨h.os, h.tape, h.output, ?_, fun k hk hne => ?_⟩
    · have := h.size; rw [World.size_setCell] at this; exact this
    · refine (h.block k (by rw [World.size_setCell]; exact hk) hne).trans (Below.heap_setCell _ _ _ _ (fun e => hne (by rw [e])))

/-- q's bytes behind the copy. -/
def mixed (yb yq : Nat → Int) (o k : Nat) : Nat → Int := fun j => if j < k then yb (o + j) else yq j

theorem arr_copy {w : World} {gq lq o k : Nat} {yb yq : Nat → Int} (hk : k ≤ lq) (hq : Arr8 w gq lq yq) : Arr8 (w.setCells gq 0 (cpy yb o k)) gq lq (mixed yb yq o k) := fun j hj => by
  have hl : (cpy yb o k).length = k := by simp [cpy]
  refine ⟨?_, by rw [World.frozen?_setCells]; exact (hq j hj).2⟩
  unfold mixed
  by_cases h : j < k
  · have h2 := World.cell?_setCells_in gq (cpy yb o k) 0 w (fun i hi => by rw [Nat.zero_add, (hq i (by omega)).1]; rfl) j (by omega)
    rw [Nat.zero_add] at h2
    rw [h2, if_pos h]
    simp [cpy]
  · rw [World.cell?_setCells_out gq _ 0 w _ (fun _ _ => by right; show 0 + (cpy yb o k).length ≤ j; omega), if_neg h]
    exact (hq j hj).1

theorem run_cpy {w : World} {gb gq lb lq o k : Nat} {yb yq : Nat → Int} (hb : Arr8 w gb lb yb) (hq : Arr8 w gq lq yq) (hk : k = min (lb - o) lq) (ho : o < lb) :
    (Builtin.copy_ #[22, 22] 3 #[.slice (some ⟨gq, 0, none⟩) lq lq, .slice (some ⟨gb, o, none⟩) (lb - o) (lb - o)]).run Tryd.prog w = .ok (.int .i64 k) (w.setCells gq 0 (cpy yb o k)) := by
  have hl : (cpy yb o k).length = k := by simp [cpy]
  have h := run_copy_cells (P := Tryd.prog) w 22 22 3 5 gq 0 lq lq ⟨gb, o, none⟩ (lb - o) (lb - o) (cpy yb o k) Tryd.underlying22 Tryd.size5 (by rw [hl, hk])
    (fun j v hv => by
      have hj : j < k := by
        rcases Nat.lt_or_ge j k with h | h
        · exact h
        · rw [List.getElem?_eq_none (by omega)] at hv; cases hv
      have hv' : v = .int .u8 (yb (o + j)) := by
        unfold cpy at hv
        rw [List.getElem?_map, List.getElem?_range hj] at hv
        exact (Option.some.inj hv).symm
      rw [hv', Addr.add_lit]
      exact (hb (o + j) (by omega)).1)
    (fun j hj => by rw [Nat.zero_add, (hq j (by omega)).1]; rfl) (fun j hj => by rw [Nat.zero_add]; exact (hq j (by omega)).2)
    (fun v hv => by
      unfold cpy at hv
      obtain ⟨j, _, rfl⟩ := List.mem_map.1 hv
      rfl)
  rw [hl] at h
  exact h

set_option maxHeartbeats 1600000 in
/-- All of q filled. -/
theorem readAt_full (mb gb gq lb lq o : Nat) (yb yq : Nat → Int) (w : World) (c0 : w.cell? ⟨mb, 0, none⟩ = some (.slice (some ⟨gb, 0, none⟩) lb lb)) (hb : Arr8 w gb lb yb) (hq : Arr8 w gq lq yq) (ho : o < lb) (hk : lq ≤ lb - o) :
    Calls Tryd.prog 35 #[.pointer (some ⟨mb, 0, none⟩), .slice (some ⟨gq, 0, none⟩) lq lq, .int .i64 o] w fun e w' => e = .returned (.tuple #[.int .i64 lq, .nilIface]) ∧ w' = w.setCells gq 0 (cpy yb o lq) := by
  have k1 : ¬ (lb : Int) ≤ (o : Int) := by omega
  have k2 : ¬ lb = o := by omega
  have k3 : (o : Int) ≤ (lb : Int) := by omega
  have hcp := run_cpy (k := lq) hb hq (by omega) ho
  clear hb hq
  go_enter Tryd.func35, Tryd.ntmps35
  go_wp2
  go_ret2
  exact ⟨rfl, rfl⟩

set_option maxHeartbeats 1600000 in
/-- Less than q takes: as many as there are, and io.EOF. -/
theorem readAt_part (mb gb gq lb lq o : Nat) (yb yq : Nat → Int) (a0 : Addr) (w : World) (c0 : w.cell? ⟨mb, 0, none⟩ = some (.slice (some ⟨gb, 0, none⟩) lb lb)) (hg : w.cell? ⟨0, 0, none⟩ = some (.iface 63 (.pointer (some a0)))) (hg0 : gq ≠ 0) (hb : Arr8 w gb lb yb) (hq : Arr8 w gq lq yq) (ho : o < lb) (hk : lb - o < lq) :
    Calls Tryd.prog 35 #[.pointer (some ⟨mb, 0, none⟩), .slice (some ⟨gq, 0, none⟩) lq lq, .int .i64 o] w fun e w' => e = .returned (.tuple #[.int .i64 (lb - o : Nat), .iface 63 (.pointer (some a0))]) ∧ ∃ m, w' = (w.setCells gq 0 (cpy yb o (lb - o))).drewN m := by
  have k1 : ¬ (lb : Int) ≤ (o : Int) := by omega
  have k2 : ¬ lb = o := by omega
  have k3 : (o : Int) ≤ (lb : Int) := by omega
  obtain ⟨k, hke⟩ : ∃ k, lb - o = k := ⟨_, rfl⟩
  have hcp := run_cpy (k := k) hb hq (by omega) ho
  have hgS := (World.cell?_of_block ((grown_setCells gq (cpy yb o k) 0 w).block 0 (World.block_lt_of_cell? _ _ hg) (fun e => hg0 (Option.some.inj e).symm))).trans hg
  have k4 : (k : Int) < (lq : Int) := by omega
  rw [hke]
  clear hb hq hke hk
  go_enter Tryd.func35, Tryd.ntmps35
  go_wp2
  go_quiet (fail)
  go_wp2
  go_ret2
  exact ⟨rfl, nq, rfl⟩
end Go.Proofs.Qxb6605986aDoor
