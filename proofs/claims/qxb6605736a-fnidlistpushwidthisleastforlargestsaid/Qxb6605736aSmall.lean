import Derived.Test.Qxb6605736aPush
import Derived.OpenShut
namespace Go.Proofs.Qxb6605736a
open Go.RowKit Go.Deep

/-- A slice of uint32 that came in: its elements by a function. -/
def In32 (w : World) (a : Option Addr) (len : Nat) (x : Nat → Nat) : Prop :=
  len = 0 ∨ ∃ b off, a = some ⟨b, off, none⟩ ∧ ∀ j, j < len → w.cell? ⟨b, off + j, none⟩ = some (.int .u32 (x j : Nat)) ∧ x j < 4294967296

theorem LL.congr {w : World} {sb n wd g : Nat} {xs ys : Nat → Nat} (h : LL w sb n wd g xs) (he : ∀ i, i < n → xs i = ys i) : LL w sb n wd g ys := by
  rcases h with h | ⟨cap, bs, h1, h2⟩
  · exact .inl h
  · exact .inr ⟨cap, bs, h1, fun i hi => (h2 i hi).trans (he i hi)⟩

theorem LL.lt {w : World} {sb n wd g : Nat} {xs : Nat → Nat} (h : LL w sb n wd g xs) : sb < w.heap.size := by
  rcases h with ⟨_, _, H⟩ | ⟨cap, bs, h1, _⟩
  · exact H.lt
  · exact h1.hdr.lt

theorem zz12_t (a : Option Addr) (len cap : Nat) (p : Int) (w : World) (h : len ≤ 1048576) :
    Calls Try.prog 12 #[.slice a len cap, .int .u32 p] w fun e w' => e = .returned (.bool true) ∧ w' = w := by
  have h1 : ¬ (1048576 : Int) < (len : Int) := by omega
  go_enter Try.func12, Try.ntmps12
  go_wp2
  go_ret
  exact ⟨rfl, rfl⟩
theorem zz12_f (a : Option Addr) (len cap : Nat) (p : Int) (w : World) (h : ¬ len ≤ 1048576) :
    Calls Try.prog 12 #[.slice a len cap, .int .u32 p] w fun e w' => e = .returned (.bool false) ∧ w' = w := by
  have h1 : (1048576 : Int) < (len : Int) := by omega
  go_enter Try.func12, Try.ntmps12
  go_wp2
  go_ret
  exact ⟨rfl, rfl⟩

theorem new_any (w : World) : Calls Try.prog 8 #[] w fun e w' => e = .returned (.pointer (some ⟨w.heap.size, 0, none⟩)) ∧ w' = w.alloc (.cells #[.slice none 0 0, .int .i64 0, .int .i64 0, .int .u32 0] 51) := by
  go_enter Try.func8, Try.ntmps8
  go_wp2
  go_ret
  exact ⟨rfl, rfl⟩

theorem new_LL (w : World) (g : Nat) (xs : Nat → Nat) : LL (w.alloc (.cells #[.slice none 0 0, .int .i64 0, .int .i64 0, .int .u32 0] 51)) w.heap.size 0 0 g xs :=
  .inl ⟨rfl, rfl, Hdr.made w (.slice none 0 0) 0 0 0 51⟩

theorem push9 (sb n wd g0 p : Nat) (xs : Nat → Nat) (w : World) (h : LL w sb n wd g0 xs) (hp : p < 4294967296) (hn : n ≤ 199999) :
    Calls Try.prog 9 #[.pointer (some ⟨sb, 0, none⟩), .int .u32 p] w fun e w' => e = .returned (.tuple #[]) ∧
      ∃ g, LL w' sb (n + 1) (max wd (need p)) g (fun i => if i < n then xs i else p) ∧ Fr sb g0 w w' ∧ (g = g0 ∨ w.heap.size ≤ g) := by
  have hc := push_all sb n wd g0 p xs w h hp hn
  go_enter Try.func9, Try.ntmps9
  go_wp2_with (go_at_call 24; refine hc.mono ?_; rintro e w' ⟨rfl, hq⟩)
  go_end0
  exact ⟨rfl, hq⟩

theorem width15 (sb wd : Nat) (w : World) (c2 : w.cell? ⟨sb, 2, none⟩ = some (.int .i64 wd)) :
    Calls Try.prog 15 #[.pointer (some ⟨sb, 0, none⟩)] w fun e w' => e = .returned (.int .i64 wd) ∧ w' = w := by
  go_enter Try.func15, Try.ntmps15
  go_wp2
  go_ret
  exact ⟨rfl, rfl⟩

theorem len13 (sb : Nat) (a : Option Addr) (L cap : Nat) (w : World) (c0 : w.cell? ⟨sb, 0, none⟩ = some (.slice a L cap)) :
    Calls Try.prog 13 #[.pointer (some ⟨sb, 0, none⟩)] w fun e w' => e = .returned (.int .i64 L) ∧ w' = w := by
  go_enter Try.func13, Try.ntmps13
  go_wp2
  go_ret
  exact ⟨rfl, rfl⟩

theorem least14 (p : Nat) (w : World) : Calls Try.prog 14 #[.int .u32 p] w fun e w' => e = .returned (.int .i64 (need p : Nat)) ∧ w' = w := by
  by_cases h1 : p < 256
  · have k1 : (p : Int) < 256 := by omega
    have e : need p = 1 := by unfold need; rw [if_pos h1]
    rw [e]
    go_enter Try.func14, Try.ntmps14
    go_wp2
    go_ret
    exact ⟨rfl, rfl⟩
  · have k1 : ¬ (p : Int) < 256 := by omega
    by_cases h2 : p < 65536
    · have k2 : (p : Int) < 65536 := by omega
      have e : need p = 2 := by unfold need; rw [if_neg h1, if_pos h2]
      rw [e]
      go_enter Try.func14, Try.ntmps14
      go_wp2
      go_ret
      exact ⟨rfl, rfl⟩
    · have k2 : ¬ (p : Int) < 65536 := by omega
      by_cases h3 : p < 16777216
      · have k3 : (p : Int) < 16777216 := by omega
        have e : need p = 3 := by unfold need; rw [if_neg h1, if_neg h2, if_pos h3]
        rw [e]
        go_enter Try.func14, Try.ntmps14
        go_wp2
        go_ret
        exact ⟨rfl, rfl⟩
      · have k3 : ¬ (p : Int) < 16777216 := by omega
        have e : need p = 4 := by unfold need; rw [if_neg h1, if_neg h2, if_neg h3]
        rw [e]
        go_enter Try.func14, Try.ntmps14
        go_wp2
        go_ret
        exact ⟨rfl, rfl⟩

/-- The greatest of the first k. -/
def mx (x : Nat → Nat) : Nat → Nat
  | 0 => 0
  | k + 1 => max (mx x k) (x k)
/-- The width behind k pushes. -/
def wdt (x : Nat → Nat) : Nat → Nat
  | 0 => 0
  | k + 1 => max (wdt x k) (need (x k))

theorem need_max (a b : Nat) : need (max a b) = max (need a) (need b) := by
  unfold need
  rcases Nat.le_total a b with h | h
  · rw [Nat.max_eq_right h]; repeat' split
    all_goals omega
  · rw [Nat.max_eq_left h]; repeat' split
    all_goals omega
theorem wdt_eq (x : Nat → Nat) : ∀ k, wdt x (k + 1) = need (mx x (k + 1))
  | 0 => by have := need_pos (x 0); simp [wdt, mx]
  | k + 1 => by
    show max (wdt x (k + 1)) (need (x (k + 1))) = need (max (mx x (k + 1)) (x (k + 1)))
    rw [wdt_eq x k, need_max]
end Go.Proofs.Qxb6605736a
