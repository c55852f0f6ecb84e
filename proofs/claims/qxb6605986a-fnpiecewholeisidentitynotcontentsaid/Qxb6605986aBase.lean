import Derived.Test.Qxb6605986aRows
import Derived.WalkKit
import Derived.WalkSpells
import Derived.WalkLawsBesides
import Derived.RegionTactic
import Derived.BigQuiet
import Derived.LoopTactic
import Derived.Deep.Draws
import Derived.Deep.OwnRows
import Derived.Below
import Derived.Outline
import Derived.OpenShut
namespace Go.Proofs.Qxb6605986a
open Go.RowKit Go.Deep

theorem cell_set1 {w : World} {g o j : Nat} {v x : Value} (h : w.cell? ⟨g, j, none⟩ = some x) : (w.setCell ⟨g, o, none⟩ v).cell? ⟨g, j, none⟩ = some (if j = o then v else x) := by
  by_cases e : j = o
  · subst e; rw [if_pos rfl]; exact World.cell?_setCell_same _ _ _ h
  · rw [if_neg e, World.cell?_setCell_other _ _ _ _ (fun q => e (by injection q with _ q2 _; exact q2.symm))]; exact h

/-- A slice of int: its elements by a function. -/
def In64 (w : World) (a : Option Addr) (len : Nat) (y : Nat → Int) : Prop :=
  len = 0 ∨ ∃ b off, a = some ⟨b, off, none⟩ ∧ ∀ j, j < len → w.cell? ⟨b, off + j, none⟩ = some (.int .i64 (y j))

theorem In64.later {w w' : World} {a : Option Addr} {len : Nat} {y : Nat → Int} (h : In64 w a len y) (hb : Below w.heap.size w w') : In64 w' a len y := by
  rcases h with h | ⟨b, off, e, hc⟩
  · exact .inl h
  · exact .inr ⟨b, off, e, fun j hj => cell_later hb (hc j hj)⟩

/-- A row of the call's own, of int. -/
def Arr (w : World) (g len : Nat) (y : Nat → Int) : Prop := ∀ j, j < len → w.cell? ⟨g, j, none⟩ = some (.int .i64 (y j)) ∧ w.frozen? ⟨g, j, none⟩ = false

theorem Try.info3 : (Try.prog.info? 3).map (fun i => (i.zero, i.size, i.bytes)) = some (some (.int .i64 0), 1, 8) := by kernel_rfl

/-- The block of 'make([]int, n)'. -/
def intObj (n : Nat) : Obj := .cells (madeCells #[.int .i64 0] n) 3

theorem arr_made (w : World) (n : Nat) (y : Nat → Int) : Arr (w.alloc (intObj n)) w.heap.size n (fun j => if j < 0 then y j else 0) := fun j hj => by
  unfold intObj
  refine ⟨?_, World.frozen?_alloc_new w _ _ j⟩
  rw [World.cell?_alloc_new]
  simp [madeCells, hj, Nat.mod_one]

theorem arr_set {w : World} {g len k : Nat} {y : Nat → Int} (h : Arr w g len (fun j => if j < k then y j else 0)) : Arr (w.setCell ⟨g, k, none⟩ (.int .i64 (y k))) g len (fun j => if j < k + 1 then y j else 0) := fun j hj => by
  obtain ⟨h1, h2⟩ := h j hj
  refine ⟨?_, by rw [World.frozen?_setCell]; exact h2⟩
  rw [cell_set1 h1]
  by_cases e : j = k
  · subst e; simp only [if_pos (Nat.lt_succ_self j)]; rfl
  · by_cases hk : j < k
    · simp only [if_neg e, if_pos hk, if_pos (show j < k + 1 by omega)]
    · simp only [if_neg e, if_neg hk, if_neg (show ¬ j < k + 1 by omega)]

theorem Arr.in64 {w : World} {g len : Nat} {y : Nat → Int} (h : Arr w g len (fun j => if j < len then y j else 0)) : In64 w (some ⟨g, 0, none⟩) len y :=
  .inr ⟨g, 0, rfl, fun j hj => by
    have := (h j hj).1
    simp only [if_pos hj] at this
    rw [Nat.zero_add]; exact this⟩

set_option maxHeartbeats 1600000 in
/-- zzCloneInts. -/
theorem clone7 (a : Option Addr) (len cap : Nat) (y : Nat → Int) (w : World) (hin : In64 w a len y) (hlen : len ≤ 131072) :
    Calls Try.prog 7 #[.slice a len cap] w fun e w' => ∃ a' c', e = .returned (.slice a' len c') ∧ In64 w' a' len y ∧ Below w.heap.size w w' := by
  have hnil := fun w' : World => Lib.run_eql_slice_nil (P := Try.prog) w' 22 3 a len cap 0 0 Try.underlying22
  have hmk : ∀ w', (Instr.makeSlice 22 (.int .i64 len) (.int .i64 len)).run Try.prog w' = .ok (.slice (some ⟨w'.heap.size, 0, none⟩) len len) (w'.alloc (intObj len)) :=
    fun w' => run_make_row' (P := Try.prog) 22 3 (.int .i64 0) 8 Try.underlying22 Try.info3 rfl .i64 .i64 len (by omega) (by omega) w'
  cases a with
  | none =>
    have h0 : In64 w none 0 y := .inl rfl
    have hl : len = 0 := by
      rcases hin with h | ⟨b, off, e, _⟩
      · exact h
      · cases e
    subst hl
    go_enter Try.func7, Try.ntmps7
    go_wp2
    go_ret
    exact ⟨none, 0, rfl, h0, Below.refl _ _⟩
  | some ad =>
    go_enter Try.func7, Try.ntmps7
    go_wp2
    have h0 : Arr (w.alloc (intObj len)) w.heap.size len (fun j => if j < 0 then y j else 0) := arr_made w len y
    have hb0 : Below w.heap.size w (w.alloc (intObj len)) := (Below.refl _ _).alloc (Nat.le_refl _) _
    go_loopw [4] (fun i wr => ∃ k : Nat, k ≤ len ∧ i = .int .i64 k ∧ Arr wr w.heap.size len (fun j => if j < k then y j else 0) ∧ Below w.heap.size w wr) (fun i _ => len - (intOf i).toNat)
    case atStart => exact ⟨0, Nat.zero_le _, rfl, h0, hb0⟩
    case round =>
      obtain ⟨k, hk, rfl, hA, hb⟩ := hrel
      clear h0 hb0 hmk
      by_cases hk2 : k < len
      · rcases hin with h0 | ⟨b, off, e, hc⟩
        · omega
        cases e
        have hcr := cell_later hb (hc k hk2)
        obtain ⟨y1, y2⟩ := hA k hk2
        have hk3 : (k : Int) < (len : Int) := by omega
        go_wp2
        go_roundw
        case rel => exact ⟨k + 1, by omega, by go_num, arr_set hA, hb.setCell (Nat.le_refl _) _⟩
        case measure => simp [intOf]; omega
      · have e : len = k := by omega
        subst e
        go_wp2
        go_ret
        exact ⟨_, _, rfl, hA.in64, hb⟩

/-- Where line i of a window starts. -/
def ls (s : Int) (y : Nat → Int) (i : Nat) : Int := if i = 0 then s else y (i - 1)

/-- The block of a window that is built of a start and its ends. -/
def winObj (s : Int) (a : Option Addr) (len cap : Nat) : Obj := .cells #[.slice none 0 0, .int .i64 0, .int .i64 s, .slice a len cap, .int .i64 0, .slice none 0 0, .bool false] 37

theorem line15 (b : Nat) (s : Int) (a : Option Addr) (len cap i : Nat) (y : Nat → Int) (w : World) (c2 : w.cell? ⟨b, 2, none⟩ = some (.int .i64 s)) (c3 : w.cell? ⟨b, 3, none⟩ = some (.slice a len cap)) (hin : In64 w a len y) (hi : i ≤ len) (hlen : len ≤ 131072) :
    Calls Try.prog 15 #[.pointer (some ⟨b, 0, none⟩), .int .i64 i] w fun e w' => e = .returned (.int .i64 (ls s y i)) ∧ w' = w := by
  cases i with
  | zero =>
    unfold ls
    go_enter Try.func15, Try.ntmps15
    go_wp2
    go_ret
    exact ⟨rfl, rfl⟩
  | succ k =>
    rcases hin with h0 | ⟨bb, off, rfl, hc⟩
    · omega
    have hcr := hc k (by omega)
    have k1 : (k : Int) < (len : Int) := by omega
    have k2 : (((k + 1 : Nat) : Int) == 0) = false := by rw [beq_eq_false_iff_ne]; omega
    have k3 : ((k + 1 : Nat) : Int) = (k : Int) + 1 := by omega
    rw [k3] at k2 ⊢
    have e : ls s y (k + 1) = y k := by simp [ls]
    rw [e]
    go_enter Try.func15, Try.ntmps15
    go_wp2
    go_ret
    exact ⟨rfl, rfl⟩

theorem start8 (s : Int) (a : Option Addr) (len cap i : Nat) (y : Nat → Int) (w : World) (hin : In64 w a len y) (hi : i ≤ len) (hlen : len ≤ 131072) :
    Calls Try.prog 8 #[.int .i64 s, .slice a len cap, .int .i64 i] w fun e w' => e = .returned (.int .i64 (ls s y i)) ∧ Below w.heap.size w w' := by
  have hal : Below w.heap.size w (w.alloc (winObj s a len cap)) := (Below.refl _ _).alloc (Nat.le_refl _) _
  have h := line15 w.heap.size s a len cap i y (w.alloc (winObj s a len cap)) (by unfold winObj; simp) (by unfold winObj; simp) (hin.later hal) hi hlen
  unfold winObj at h hal
  go_enter Try.func8, Try.ntmps8
  go_wp2_with (go_at_call 15; refine h.mono ?_; rintro e w' ⟨rfl, hq⟩; obtain rfl := hq.symm)
  go_ret
  exact ⟨rfl, hal⟩
end Go.Proofs.Qxb6605986a
