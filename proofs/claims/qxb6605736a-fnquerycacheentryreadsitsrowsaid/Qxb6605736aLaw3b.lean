import Derived.Test.Qxb6605736aLaw3a
namespace Go.Proofs.Qxb6605736a
open Go.RowKit Go.Deep

/-- A row of the call's own, of int. -/
def Arr (w : World) (g len : Nat) (y : Nat → Int) : Prop := ∀ j, j < len → w.cell? ⟨g, j, none⟩ = some (.int .i64 (y j)) ∧ w.frozen? ⟨g, j, none⟩ = false

theorem Try.info3 : (Try.prog.info? 3).map (fun i => (i.zero, i.size, i.bytes)) = some (some (.int .i64 0), 1, 8) := by kernel_rfl
theorem Try.info37 : (Try.prog.info? 37).map (fun i => (i.zero, i.size, i.bytes)) = some (some (.int .i64 0), 1, 8) := by kernel_rfl

/-- The block of 'make([]int, n)' (or of time.Duration). -/
def intObj (n : Nat) (t : TypeId) : Obj := .cells (madeCells #[.int .i64 0] n) t

theorem arr_made (w : World) (n : Nat) (t : TypeId) (y : Nat → Int) : Arr (w.alloc (intObj n t)) w.heap.size n (fun j => if j < 0 then y j else 0) := fun j hj => by
  unfold intObj
  refine ⟨?_, World.frozen?_alloc_new w _ _ j⟩
  rw [World.cell?_alloc_new]
  simp [madeCells, hj, Nat.mod_one]

theorem arr_set {w : World} {g len k : Nat} {y : Nat → Int} (h : Arr w g len (fun j => if j < k then y j else 0)) : Arr (w.setCell ⟨g, k, none⟩ (.int .i64 (y k))) g len (fun j => if j < k + 1 then y j else 0) := fun j hj => by
  obtain ⟨h1, h2⟩ := h j hj
  refine ⟨?_, by rw [World.frozen?_setCell]; exact h2⟩
  rw [cell_set1 h1]
  by_cases e : j = k
  · subst e; simp only [if_pos (Nat.lt_succ_self j)]; rfl
  · by_cases hk : j < k
    · simp only [if_neg e, if_pos hk, if_pos (show j < k + 1 by omega)]
    · simp only [if_neg e, if_neg hk, if_neg (show ¬ j < k + 1 by omega)]

theorem Arr.in64 {w : World} {g len : Nat} {y : Nat → Int} (h : Arr w g len (fun j => if j < len then y j else 0)) : In64 w (some ⟨g, 0, none⟩) len y :=
  .inr ⟨g, 0, rfl, fun j hj => by
    have := (h j hj).1
    simp only [if_pos hj] at this
    rw [Nat.zero_add]; exact this⟩

set_option maxHeartbeats 1600000 in
theorem clone18 (a : Option Addr) (len cap : Nat) (y : Nat → Int) (w : World) (hin : In64 w a len y) (hlen : len ≤ 65536) :
    Calls Try.prog 18 #[.slice a len cap] w fun e w' => ∃ a' c', e = .returned (.slice a' len c') ∧ In64 w' a' len y ∧ Below w.heap.size w w' := by
  have hnil := fun w' : World => Lib.run_eql_slice_nil (P := Try.prog) w' 33 3 a len cap 0 0 Try.underlying33
  have hmk : ∀ w', (Instr.makeSlice 33 (.int .i64 len) (.int .i64 len)).run Try.prog w' = .ok (.slice (some ⟨w'.heap.size, 0, none⟩) len len) (w'.alloc (intObj len 3)) :=
    fun w' => run_make_row' (P := Try.prog) 33 3 (.int .i64 0) 8 Try.underlying33 Try.info3 rfl .i64 .i64 len (by omega) (by omega) w'
  cases a with
  | none =>
    have h0 : In64 w none 0 y := .inl rfl
    have hl : len = 0 := by
      rcases hin with h | ⟨b, off, e, _⟩
      · exact h
      · cases e
    subst hl
    go_enter Try.func18, Try.ntmps18
    go_wp2
    go_ret
    exact ⟨none, 0, rfl, h0, Below.refl _ _⟩
  | some ad =>
    go_enter Try.func18, Try.ntmps18
    go_wp2
    have h0 : Arr (w.alloc (intObj len 3)) w.heap.size len (fun j => if j < 0 then y j else 0) := arr_made w len 3 y
    have hb0 : Below w.heap.size w (w.alloc (intObj len 3)) := (Below.refl _ _).alloc (Nat.le_refl _) _
    go_loopw [4] (fun i wr => ∃ k : Nat, k ≤ len ∧ i = .int .i64 k ∧ Arr wr w.heap.size len (fun j => if j < k then y j else 0) ∧ Below w.heap.size w wr) (fun i _ => len - (intOf i).toNat)
    case atStart => exact ⟨0, Nat.zero_le _, rfl, h0, hb0⟩
    case round =>
      obtain ⟨k, hk, rfl, hA, hb⟩ := hrel
      clear h0 hb0 hmk
      by_cases hk2 : k < len
      · rcases hin with h0 | ⟨b, off, e, hc⟩
        · omega
        cases e
        have hcr := cell_later hb (hc k hk2)
        obtain ⟨y1, y2⟩ := hA k hk2
        have hk3 : (k : Int) < (len : Int) := by omega
        go_wp2
        go_roundw
        case rel => exact ⟨k + 1, by omega, by go_num, arr_set hA, hb.setCell (Nat.le_refl _) _⟩
        case measure => simp [intOf]; omega
      · have e : len = k := by omega
        subst e
        go_wp2
        go_ret
        exact ⟨_, _, rfl, hA.in64, hb⟩
end Go.Proofs.Qxb6605736a
