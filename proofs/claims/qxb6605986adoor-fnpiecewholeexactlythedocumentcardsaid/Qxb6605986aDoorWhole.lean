import Derived.Test.Qxb6605986aDoorExactA
namespace Go.Proofs.Qxb6605986aDoor
open Go.RowKit Go.Deep

theorem size36 (mb : Nat) (a : Option Addr) (len cap : Nat) (w : World) (c0 : w.cell? ⟨mb, 0, none⟩ = some (.slice a len cap)) :
    Calls Tryd.prog 36 #[.pointer (some ⟨mb, 0, none⟩)] w fun e w' => e = .returned (.int .i64 len) ∧ w' = w := by
  go_enter Tryd.func36, Tryd.ntmps36
  go_wp2
  go_ret
  exact ⟨rfl, rfl⟩

theorem info25 : (Tryd.prog.info? 25).map (·.comparable) = some true := by kernel_rfl
theorem info35 : (Tryd.prog.info? 35).map (·.size) = some 1 := by kernel_rfl

theorem doc_same (b : Nat) (w : World) : (binOp .eql 37 (.iface 25 (.pointer (some ⟨b, 0, none⟩))) (.iface 25 (.pointer (some ⟨b, 0, none⟩)))).run Tryd.prog w = .ok (.bool true) w := by
  obtain ⟨i, hi, hc⟩ := Option.map_eq_some_iff.1 info25
  obtain ⟨j, hj, _⟩ := Option.map_eq_some_iff.1 info35
  exact run_eql_iface_ptr_same w _ Tryd.underlying37 Tryd.underlying25 hi hc hj
theorem doc_other (a b : Nat) (w : World) (hne : a ≠ b) {ca cb : Array Value} {ta tb : TypeId} (ha : w.heap[a]? = some (.cells ca ta (0, 0))) (hb : w.heap[b]? = some (.cells cb tb (0, 0))) :
    (binOp .eql 37 (.iface 25 (.pointer (some ⟨a, 0, none⟩))) (.iface 25 (.pointer (some ⟨b, 0, none⟩)))).run Tryd.prog w = .ok (.bool false) w := by
  obtain ⟨i, hi, hc⟩ := Option.map_eq_some_iff.1 info25
  obtain ⟨j, hj, hs⟩ := Option.map_eq_some_iff.1 info35
  exact run_eql_iface_ptr_other w Tryd.underlying37 Tryd.underlying25 hi hc hj (by omega) (fun e => hne (by injection e)) ha hb

set_option maxHeartbeats 1600000 in
theorem whole_no (eb db : Nat) (off n : Int) (w : World) (hne : eb ≠ db) {ca cb : Array Value} {ta tb : TypeId} (ha : w.heap[eb]? = some (.cells ca ta (0, 0))) (hb : w.heap[db]? = some (.cells cb tb (0, 0))) :
    Calls Tryd.prog 13 #[.agg #[.iface 25 (.pointer (some ⟨eb, 0, none⟩)), .int .i64 off, .int .i64 n], .iface 25 (.pointer (some ⟨db, 0, none⟩))] w fun e w' => e = .returned (.bool false) ∧ Below w.heap.size w w' := by
  have hq : ∀ k, (binOp .eql 37 (.iface 25 (.pointer (some ⟨eb, 0, none⟩))) (.iface 25 (.pointer (some ⟨db, 0, none⟩)))).run Tryd.prog ((w.alloc (.cells #[.iface 25 (.pointer (some ⟨eb, 0, none⟩)), .int .i64 off, .int .i64 n] 39)).drewN k) = .ok (.bool false) ((w.alloc (.cells #[.iface 25 (.pointer (some ⟨eb, 0, none⟩)), .int .i64 off, .int .i64 n] 39)).drewN k) := fun k =>
    doc_other eb db _ hne ((Below.heap_alloc w _ eb (Array.getElem?_eq_some_iff.1 ha).1).trans ha) ((Below.heap_alloc w _ db (Array.getElem?_eq_some_iff.1 hb).1).trans hb)
  go_enter Tryd.func13, Tryd.ntmps13
  go_wp2
  go_quiet (fail)
  go_wp2
  go_ret
  exact ⟨rfl, below_drewN ((Below.refl _ _).alloc (Nat.le_refl _) _) _⟩

theorem method_size (a : Addr) (w : World) : (method 201 25 (.pointer (some a)) "Size").run Tryd.prog w = .ok (36, .pointer (some a)) w := by kernel_rfl
theorem ahead_size (a : Addr) (w : World) : (nilAhead 201 25 (.pointer (some a)) "Size").run Tryd.prog w = .ok (some false) w := by kernel_rfl

set_option maxHeartbeats 1600000 in
/-- The same document at an offset that is not nought. -/
theorem whole_off (db : Nat) (off n : Int) (w : World) (ho : off ≠ 0) :
    Calls Tryd.prog 13 #[.agg #[.iface 25 (.pointer (some ⟨db, 0, none⟩)), .int .i64 off, .int .i64 n], .iface 25 (.pointer (some ⟨db, 0, none⟩))] w fun e w' => e = .returned (.bool false) ∧ Below w.heap.size w w' := by
  have hq := doc_same db
  have k1 : (off == 0) = false := by rw [beq_eq_false_iff_ne]; exact ho
  go_enter Tryd.func13, Tryd.ntmps13
  go_wp2
  go_quiet (fail)
  go_wp2
  go_ret
  exact ⟨rfl, below_drewN ((Below.refl _ _).alloc (Nat.le_refl _) _) _⟩

set_option maxHeartbeats 1600000 in
/-- The same document at the offset nought: is the length the document's? -/
theorem whole_len (db : Nat) (a : Option Addr) (len cap : Nat) (n : Int) (w : World) (c0 : w.cell? ⟨db, 0, none⟩ = some (.slice a len cap)) (r : Bool) (hr : (n == (len : Int)) = r) :
    Calls Tryd.prog 13 #[.agg #[.iface 25 (.pointer (some ⟨db, 0, none⟩)), .int .i64 0, .int .i64 n], .iface 25 (.pointer (some ⟨db, 0, none⟩))] w fun e w' => e = .returned (.bool r) ∧ Below w.heap.size w w' := by
  have hq := doc_same db
  have hm := method_size ⟨db, 0, none⟩
  have hna := ahead_size ⟨db, 0, none⟩
  have c1 := (World.cell?_alloc_lt w (.cells #[.iface 25 (.pointer (some ⟨db, 0, none⟩)), .int .i64 0, .int .i64 n] 39) ⟨db, 0, none⟩ (World.block_lt_of_cell? _ _ c0)).trans c0
  go_enter Tryd.func13, Tryd.ntmps13
  go_wp2
  go_quiet ((go_at_call 36; exact Calls.quiet_of_same (size36 db a len cap _ c1)))
  go_wp2
  go_ret
  exact ⟨rfl, below_drewN ((Below.refl _ _).alloc (Nat.le_refl _) _) _⟩

/-- ZZpieceWhole hands on. -/
theorem piece8 (eb db : Nat) (off n : Int) (w : World) (r : Bool)
    (h : Calls Tryd.prog 13 #[.agg #[.iface 25 (.pointer (some ⟨eb, 0, none⟩)), .int .i64 off, .int .i64 n], .iface 25 (.pointer (some ⟨db, 0, none⟩))] w fun e w' => e = .returned (.bool r) ∧ Below w.heap.size w w') :
    Calls Tryd.prog 8 #[.pointer (some ⟨eb, 0, none⟩), .int .i64 off, .int .i64 n, .pointer (some ⟨db, 0, none⟩)] w fun e w' => e = .returned (.bool r) ∧ Below w.heap.size w w' := by
  go_enter Tryd.func8, Tryd.ntmps8
  go_wp2_with (go_at_call 13; refine h.mono ?_; rintro e w' ⟨rfl, hb⟩)
  go_ret
  exact ⟨rfl, hb⟩

set_option maxHeartbeats 1600000 in
theorem zz5 (d : Bool) (a0 a1 : Option Addr) (l0 c0 l1 c1 : Nat) (x y : Int) : ∃ b, ∀ w,
    Calls Tryd.prog 5 #[.slice a0 l0 c0, .bool d, .slice a1 l1 c1, .int .i64 x, .int .i64 y] w fun e w' => e = .returned (.bool b) ∧ w' = w := by
  by_cases h0 : l0 ≤ 1048576
  · have k0 : ¬ (1048576 : Int) < (l0 : Int) := by omega
    by_cases h1 : l1 ≤ 1048576
    · have k1 : ¬ (1048576 : Int) < (l1 : Int) := by omega
      by_cases h01 : l0 + l1 ≤ 1048576
      · have k01 : ¬ (1048576 : Int) < (l0 : Int) + (l1 : Int) := by omega
        refine ⟨true, fun w => ?_⟩
        go_enter Tryd.func5, Tryd.ntmps5
        go_wp2
        go_ret
        exact ⟨rfl, rfl⟩
      · have k01 : (1048576 : Int) < (l0 : Int) + (l1 : Int) := by omega
        refine ⟨false, fun w => ?_⟩
        go_enter Tryd.func5, Tryd.ntmps5
        go_wp2
        go_ret
        exact ⟨rfl, rfl⟩
    · have k1 : (1048576 : Int) < (l1 : Int) := by omega
      refine ⟨false, fun w => ?_⟩
      go_enter Tryd.func5, Tryd.ntmps5
      go_wp2
      go_ret
      exact ⟨rfl, rfl⟩
  · have k0 : (1048576 : Int) < (l0 : Int) := by omega
    refine ⟨false, fun w => ?_⟩
    go_enter Tryd.func5, Tryd.ntmps5
    go_wp2
    go_ret
    exact ⟨rfl, rfl⟩
end Go.Proofs.Qxb6605986aDoor
