import Derived.Test.Qxb6605736aSmall
namespace Go.Proofs.Qxb6605736a
open Go.RowKit Go.Deep

/-- An entry as a value. -/
def ent (p : Nat) (lc f r : Int) : Value := .agg #[.int .u32 p, .bool false, .int .i64 lc, .int .i64 f, .int .i64 r, .int .i64 0, .int .i64 0]

/-- What a column (its two cells at ⟨b, o⟩) answers at i: 0 where it is not kept. -/
def Col (w : World) (b o i : Nat) (v : Int) : Prop :=
  (w.cell? ⟨b, o, none⟩ = some (.bool false) ∧ v = 0) ∨
  (w.cell? ⟨b, o, none⟩ = some (.bool true) ∧ ∃ g off len cap, w.cell? ⟨b, o + 1, none⟩ = some (.slice (some ⟨g, off, none⟩) len cap) ∧ i < len ∧ len ≤ maxLen ∧ w.cell? ⟨g, off + i, none⟩ = some (.int .i64 v))

theorem Col.later {w w' : World} {b o i : Nat} {v : Int} (h : Col w b o i v) (hb : Below w.heap.size w w') : Col w' b o i v := by
  rcases h with ⟨h, hv⟩ | ⟨h, g, off, len, cap, h1, h2, h3, h4⟩
  · exact .inl ⟨cell_later hb h, hv⟩
  · exact .inr ⟨cell_later hb h, g, off, len, cap, cell_later hb h1, h2, h3, cell_later hb h4⟩

set_option maxHeartbeats 800000 in
theorem col32 (b o i : Nat) (v : Int) (w : World) (h : Col w b o i v) : Calls Try.prog 32 #[.pointer (some ⟨b, o, none⟩), .int .i64 i] w fun e w' => e = .returned (.int .i64 v) ∧ w' = w := by
  rcases h with ⟨h, rfl⟩ | ⟨h, g, off, len, cap, h1, h2, h3, h4⟩
  · go_enter Try.func32, Try.ntmps32
    go_wp2
    go_ret
    exact ⟨rfl, rfl⟩
  · unfold maxLen at h3
    have k1 : (i : Int) < (len : Int) := by omega
    go_enter Try.func32, Try.ntmps32
    go_wp2
    go_ret
    exact ⟨rfl, rfl⟩

set_option maxHeartbeats 800000 in
theorem col33 (b o i : Nat) (v : Int) (w : World) (h : Col w b o i v) : Calls Try.prog 33 #[.pointer (some ⟨b, o, none⟩), .int .i64 i] w fun e w' => e = .returned (.int .i64 v) ∧ w' = w := by
  rcases h with ⟨h, rfl⟩ | ⟨h, g, off, len, cap, h1, h2, h3, h4⟩
  · go_enter Try.func33, Try.ntmps33
    go_wp2
    go_ret
    exact ⟨rfl, rfl⟩
  · unfold maxLen at h3
    have k1 : (i : Int) < (len : Int) := by omega
    go_enter Try.func33, Try.ntmps33
    go_wp2
    go_ret
    exact ⟨rfl, rfl⟩

theorem len25 (sb n : Nat) (w : World) (c1 : w.cell? ⟨sb, 1, none⟩ = some (.int .i64 n)) : Calls Try.prog 25 #[.pointer (some ⟨sb, 0, none⟩)] w fun e w' => e = .returned (.int .i64 n) ∧ w' = w := by
  go_enter Try.func25, Try.ntmps25
  go_wp2
  go_ret
  exact ⟨rfl, rfl⟩
theorem len27 (sb n : Nat) (w : World) (c1 : w.cell? ⟨sb, 1, none⟩ = some (.int .i64 n)) : Calls Try.prog 27 #[.pointer (some ⟨sb, 0, none⟩)] w fun e w' => e = .returned (.int .i64 n) ∧ w' = w := by
  have h := len25 sb n w c1
  go_enter Try.func27, Try.ntmps27
  go_wp2_with (go_at_call 25; refine h.mono ?_; rintro e w' ⟨rfl, hq⟩; obtain rfl := hq.symm)
  go_ret
  exact ⟨rfl, rfl⟩
theorem len20 (sb n : Nat) (w : World) (c1 : w.cell? ⟨sb, 1, none⟩ = some (.int .i64 n)) : Calls Try.prog 20 #[.pointer (some ⟨sb, 0, none⟩)] w fun e w' => e = .returned (.int .i64 n) ∧ w' = w := by
  have h := len27 sb n w c1
  go_enter Try.func20, Try.ntmps20
  go_wp2_with (go_at_call 27; refine h.mono ?_; rintro e w' ⟨rfl, hq⟩; obtain rfl := hq.symm)
  go_ret
  exact ⟨rfl, rfl⟩

theorem push23 (sb n wd g0 p : Nat) (xs : Nat → Nat) (w : World) (h : LL w sb n wd g0 xs) (hp : p < 4294967296) (hn : n ≤ 199999) :
    Calls Try.prog 23 #[.pointer (some ⟨sb, 0, none⟩), .int .u32 p] w fun e w' => e = .returned (.tuple #[]) ∧
      ∃ g, LL w' sb (n + 1) (max wd (need p)) g (fun i => if i < n then xs i else p) ∧ Fr sb g0 w w' ∧ (g = g0 ∨ w.heap.size ≤ g) := by
  have hc := push_all sb n wd g0 p xs w h hp hn
  go_enter Try.func23, Try.ntmps23
  go_wp2_with (go_at_call 24; refine hc.mono ?_; rintro e w' ⟨rfl, hq⟩)
  go_end0
  exact ⟨rfl, hq⟩

/-- The block that a query cache is laid in. -/
def qObj (v : Value) (n wd m : Nat) (b1 : Bool) (v1 : Value) (b2 : Bool) (v2 : Value) (b3 : Bool) (v3 : Value) : Obj :=
  .cells #[v, .int .i64 n, .int .i64 wd, .int .u32 m, .bool b1, v1, .bool b2, v2, .bool b3, v3] 60

set_option maxHeartbeats 800000 in
theorem of19 (sb n wd m : Nat) (a : Option Addr) (l c : Nat) (w : World) (H : Hdr w sb (.slice a l c) n wd m) (b1 b2 b3 : Bool) (a1 a2 a3 : Option Addr) (l1 c1 l2 c2 l3 c3 : Nat) :
    Calls Try.prog 19 #[.pointer (some ⟨sb, 0, none⟩), .bool b1, .slice a1 l1 c1, .bool b2, .slice a2 l2 c2, .bool b3, .slice a3 l3 c3] w fun e w' => e = .returned (.pointer (some ⟨w.heap.size, 0, none⟩)) ∧
      w' = w.alloc (qObj (.slice a l c) n wd m b1 (.slice a1 l1 c1) b2 (.slice a2 l2 c2) b3 (.slice a3 l3 c3)) := by
  obtain ⟨q0, q1, q2, q3, _⟩ := H
  go_enter Try.func19, Try.ntmps19
  go_wp2
  go_ret
  exact ⟨rfl, rfl⟩
end Go.Proofs.Qxb6605736a
