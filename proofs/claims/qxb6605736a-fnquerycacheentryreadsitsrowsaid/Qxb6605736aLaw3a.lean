import Derived.Test.Qxb6605736aLaw2
namespace Go.Proofs.Qxb6605736a
open Go.RowKit Go.Deep

/-- A slice of int (or int64, or time.Duration): its elements by a function. -/
def In64 (w : World) (a : Option Addr) (len : Nat) (y : Nat → Int) : Prop :=
  len = 0 ∨ ∃ b off, a = some ⟨b, off, none⟩ ∧ ∀ j, j < len → w.cell? ⟨b, off + j, none⟩ = some (.int .i64 (y j))

theorem In64.later {w w' : World} {a : Option Addr} {len : Nat} {y : Nat → Int} (h : In64 w a len y) (hb : Below w.heap.size w w') : In64 w' a len y := by
  rcases h with h | ⟨b, off, e, hc⟩
  · exact .inl h
  · exact .inr ⟨b, off, e, fun j hj => cell_later hb (hc j hj)⟩

set_option maxHeartbeats 1600000 in
theorem zz16 (a0 a1 a2 a3 : Option Addr) (l0 c0 l1 c1 l2 c2 l3 c3 : Nat) (b1 b2 b3 : Bool) : ∃ b, ∀ w,
    Calls Try.prog 16 #[.slice a0 l0 c0, .bool b1, .slice a1 l1 c1, .bool b2, .slice a2 l2 c2, .bool b3, .slice a3 l3 c3] w fun e w' => e = .returned (.bool b) ∧ w' = w := by
  by_cases h0 : l0 ≤ 1048576
  · have k0 : ¬ (1048576 : Int) < (l0 : Int) := by omega
    by_cases h1 : l1 ≤ 1048576
    · have k1 : ¬ (1048576 : Int) < (l1 : Int) := by omega
      by_cases h01 : l0 + l1 ≤ 1048576
      · have k01 : ¬ (1048576 : Int) < (l0 : Int) + (l1 : Int) := by omega
        by_cases h2 : l2 ≤ 1048576
        · have k2 : ¬ (1048576 : Int) < (l2 : Int) := by omega
          by_cases h02 : l0 + l1 + l2 ≤ 1048576
          · have k02 : ¬ (1048576 : Int) < (l0 : Int) + (l1 : Int) + (l2 : Int) := by omega
            by_cases h3 : l3 ≤ 1048576
            · have k3 : ¬ (1048576 : Int) < (l3 : Int) := by omega
              by_cases h03 : l0 + l1 + l2 + l3 ≤ 1048576
              · have k03 : ¬ (1048576 : Int) < (l0 : Int) + (l1 : Int) + (l2 : Int) + (l3 : Int) := by omega
                refine ⟨true, fun w => ?_⟩
                go_enter Try.func16, Try.ntmps16
                go_wp2
                go_ret
                exact ⟨rfl, rfl⟩
              · have k03 : (1048576 : Int) < (l0 : Int) + (l1 : Int) + (l2 : Int) + (l3 : Int) := by omega
                refine ⟨false, fun w => ?_⟩
                go_enter Try.func16, Try.ntmps16
                go_wp2
                go_ret
                exact ⟨rfl, rfl⟩
            · have k3 : (1048576 : Int) < (l3 : Int) := by omega
              refine ⟨false, fun w => ?_⟩
              go_enter Try.func16, Try.ntmps16
              go_wp2
              go_ret
              exact ⟨rfl, rfl⟩
          · have k02 : (1048576 : Int) < (l0 : Int) + (l1 : Int) + (l2 : Int) := by omega
            refine ⟨false, fun w => ?_⟩
            go_enter Try.func16, Try.ntmps16
            go_wp2
            go_ret
            exact ⟨rfl, rfl⟩
        · have k2 : (1048576 : Int) < (l2 : Int) := by omega
          refine ⟨false, fun w => ?_⟩
          go_enter Try.func16, Try.ntmps16
          go_wp2
          go_ret
          exact ⟨rfl, rfl⟩
      · have k01 : (1048576 : Int) < (l0 : Int) + (l1 : Int) := by omega
        refine ⟨false, fun w => ?_⟩
        go_enter Try.func16, Try.ntmps16
        go_wp2
        go_ret
        exact ⟨rfl, rfl⟩
    · have k1 : (1048576 : Int) < (l1 : Int) := by omega
      refine ⟨false, fun w => ?_⟩
      go_enter Try.func16, Try.ntmps16
      go_wp2
      go_ret
      exact ⟨rfl, rfl⟩
  · have k0 : (1048576 : Int) < (l0 : Int) := by omega
    refine ⟨false, fun w => ?_⟩
    go_enter Try.func16, Try.ntmps16
    go_wp2
    go_ret
    exact ⟨rfl, rfl⟩

/-- columnFits. -/
def cf (b : Bool) (m n : Nat) : Bool := if b then m == n else m == 0
theorem cf17 (b : Bool) (m n : Nat) (w : World) : Calls Try.prog 17 #[.bool b, .int .i64 m, .int .i64 n] w fun e w' => e = .returned (.bool (cf b m n)) ∧ w' = w := by
  cases b with
  | true =>
    by_cases h : m = n
    · have e : cf true m n = true := by simp [cf, h]
      have k : ((m : Int) == (n : Int)) = true := by simp [h]
      rw [e]
      go_enter Try.func17, Try.ntmps17
      go_wp2
      go_ret
      exact ⟨rfl, rfl⟩
    · have e : cf true m n = false := by simp [cf, h]
      have k : ((m : Int) == (n : Int)) = false := by rw [beq_eq_false_iff_ne]; omega
      rw [e]
      go_enter Try.func17, Try.ntmps17
      go_wp2
      go_ret
      exact ⟨rfl, rfl⟩
  | false =>
    by_cases h : m = 0
    · have e : cf false m n = true := by simp [cf, h]
      have k : ((m : Int) == 0) = true := by simp [h]
      rw [e]
      go_enter Try.func17, Try.ntmps17
      go_wp2
      go_ret
      exact ⟨rfl, rfl⟩
    · have e : cf false m n = false := by simp [cf, h]
      have k : ((m : Int) == 0) = false := by rw [beq_eq_false_iff_ne]; omega
      rw [e]
      go_enter Try.func17, Try.ntmps17
      go_wp2
      go_ret
      exact ⟨rfl, rfl⟩
end Go.Proofs.Qxb6605736a
