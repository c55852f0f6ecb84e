import Derived.Test.Qxb6605986aBase
import Derived.Deep.QuietTactic
import Derived.BigQuiet
import Derived.LaidEql
namespace Go.Proofs.Qxb6605986a
open Go.RowKit Go.Deep

theorem size33 (mb : Nat) (a : Option Addr) (len cap : Nat) (w : World) (c0 : w.cell? ⟨mb, 0, none⟩ = some (.slice a len cap)) :
    Calls Try.prog 33 #[.pointer (some ⟨mb, 0, none⟩)] w fun e w' => e = .returned (.int .i64 len) ∧ w' = w := by
  go_enter Try.func33, Try.ntmps33
  go_wp2
  go_ret
  exact ⟨rfl, rfl⟩

theorem info30 : (Try.prog.info? 30).map (·.comparable) = some true := by kernel_rfl
theorem info40 : (Try.prog.info? 40).map (·.size) = some 1 := by kernel_rfl
theorem und42 : ∃ ms, Try.prog.underlying 42 = some (.interface ms) := ⟨_, Try.underlying42⟩

theorem eq_same (b : Nat) (w : World) : (binOp .eql 42 (.iface 30 (.pointer (some ⟨b, 0, none⟩))) (.iface 30 (.pointer (some ⟨b, 0, none⟩)))).run Try.prog w = .ok (.bool true) w := by
  obtain ⟨i, hi, hc⟩ := Option.map_eq_some_iff.1 info30
  obtain ⟨j, hj, _⟩ := Option.map_eq_some_iff.1 info40
  exact run_eql_iface_ptr_same w _ Try.underlying42 Try.underlying30 hi hc hj
theorem eq_other (a b : Nat) (w : World) (hne : a ≠ b) {ca cb : Array Value} {ta tb : TypeId} (ha : w.heap[a]? = some (.cells ca ta (0, 0))) (hb : w.heap[b]? = some (.cells cb tb (0, 0))) :
    (binOp .eql 42 (.iface 30 (.pointer (some ⟨a, 0, none⟩))) (.iface 30 (.pointer (some ⟨b, 0, none⟩)))).run Try.prog w = .ok (.bool false) w := by
  obtain ⟨i, hi, hc⟩ := Option.map_eq_some_iff.1 info30
  obtain ⟨j, hj, hs⟩ := Option.map_eq_some_iff.1 info40
  exact run_eql_iface_ptr_other w Try.underlying42 Try.underlying30 hi hc hj (by omega) (fun e => hne (by injection e)) ha hb
theorem eq_nil (v : Value) (w : World) : (binOp .eql 42 .nilIface (.iface 30 v)).run Try.prog w = .ok (.bool false) w := run_eql_iface_nil_left w 30 v Try.underlying42

/-- The block of a piece that a call is handed. -/
def pcObj (v : Value) (off n : Int) : Obj := .cells #[v, .int .i64 off, .int .i64 n] 44

set_option maxHeartbeats 1600000 in
theorem whole_no (eb db : Nat) (off n : Int) (w : World) (hne : eb ≠ db) {ca cb : Array Value} {ta tb : TypeId} (ha : w.heap[eb]? = some (.cells ca ta (0, 0))) (hb : w.heap[db]? = some (.cells cb tb (0, 0))) :
    Calls Try.prog 16 #[.agg #[.iface 30 (.pointer (some ⟨eb, 0, none⟩)), .int .i64 off, .int .i64 n], .iface 30 (.pointer (some ⟨db, 0, none⟩))] w fun e w' => e = .returned (.bool false) ∧ Below w.heap.size w w' := by
  have hq : ∀ k, (binOp .eql 42 (.iface 30 (.pointer (some ⟨eb, 0, none⟩))) (.iface 30 (.pointer (some ⟨db, 0, none⟩)))).run Try.prog ((w.alloc (.cells #[.iface 30 (.pointer (some ⟨eb, 0, none⟩)), .int .i64 off, .int .i64 n] 44)).drewN k) = .ok (.bool false) ((w.alloc (.cells #[.iface 30 (.pointer (some ⟨eb, 0, none⟩)), .int .i64 off, .int .i64 n] 44)).drewN k) := fun k =>
    eq_other eb db _ hne ((Below.heap_alloc w _ eb (Array.getElem?_eq_some_iff.1 ha).1).trans ha) ((Below.heap_alloc w _ db (Array.getElem?_eq_some_iff.1 hb).1).trans hb)
  go_enter Try.func16, Try.ntmps16
  go_wp2
  go_quiet (fail)
  go_wp2
  go_ret
  exact ⟨rfl, below_drewN ((Below.refl _ _).alloc (Nat.le_refl _) _) _⟩

set_option maxHeartbeats 1600000 in
theorem whole_nil (db : Nat) (off n : Int) (w : World) :
    Calls Try.prog 16 #[.agg #[.nilIface, .int .i64 off, .int .i64 n], .iface 30 (.pointer (some ⟨db, 0, none⟩))] w fun e w' => e = .returned (.bool false) ∧ Below w.heap.size w w' := by
  have hq := eq_nil (.pointer (some ⟨db, 0, none⟩))
  go_enter Try.func16, Try.ntmps16
  go_wp2
  go_quiet (fail)
  go_wp2
  go_ret
  exact ⟨rfl, below_drewN ((Below.refl _ _).alloc (Nat.le_refl _) _) _⟩

theorem method_size (a : Addr) (w : World) : (method 168 30 (.pointer (some a)) "Size").run Try.prog w = .ok (33, .pointer (some a)) w := by kernel_rfl
theorem ahead_size (a : Addr) (w : World) : (nilAhead 168 30 (.pointer (some a)) "Size").run Try.prog w = .ok (some false) w := by kernel_rfl

set_option maxHeartbeats 1600000 in
theorem whole_yes (db : Nat) (a : Option Addr) (len cap : Nat) (w : World) (c0 : w.cell? ⟨db, 0, none⟩ = some (.slice a len cap)) :
    Calls Try.prog 16 #[.agg #[.iface 30 (.pointer (some ⟨db, 0, none⟩)), .int .i64 0, .int .i64 len], .iface 30 (.pointer (some ⟨db, 0, none⟩))] w fun e w' => e = .returned (.bool true) ∧ Below w.heap.size w w' := by
  have hq := eq_same db
  have hm := method_size ⟨db, 0, none⟩
  have hna := ahead_size ⟨db, 0, none⟩
  have c1 := (World.cell?_alloc_lt w (.cells #[.iface 30 (.pointer (some ⟨db, 0, none⟩)), .int .i64 0, .int .i64 len] 44) ⟨db, 0, none⟩ (World.block_lt_of_cell? _ _ c0)).trans c0
  go_enter Try.func16, Try.ntmps16
  go_wp2
  go_quiet ((go_at_call 33; exact Calls.quiet_of_same (size33 db a len cap _ c1)))
  go_wp2
  go_ret
  exact ⟨rfl, below_drewN ((Below.refl _ _).alloc (Nat.le_refl _) _) _⟩

theorem new12 (a : Option Addr) (len cap : Nat) (w : World) : Calls Try.prog 12 #[.slice a len cap] w fun e w' => e = .returned (.pointer (some ⟨w.heap.size, 0, none⟩)) ∧ w' = w.alloc (.cells #[.slice a len cap] 40) := by
  go_enter Try.func12, Try.ntmps12
  go_wp2
  go_ret
  exact ⟨rfl, rfl⟩

theorem piece_yes (db : Nat) (a : Option Addr) (len cap : Nat) (w : World) (c0 : w.cell? ⟨db, 0, none⟩ = some (.slice a len cap)) :
    Calls Try.prog 13 #[.pointer (some ⟨db, 0, none⟩), .int .i64 0, .int .i64 len, .pointer (some ⟨db, 0, none⟩)] w fun e w' => e = .returned (.bool true) ∧ Below w.heap.size w w' := by
  have h := whole_yes db a len cap w c0
  go_enter Try.func13, Try.ntmps13
  go_wp2_with (go_at_call 16; refine h.mono ?_; rintro e w' ⟨rfl, hb⟩)
  go_ret
  exact ⟨rfl, hb⟩
theorem piece_no (eb db : Nat) (off n : Int) (w : World) (hne : eb ≠ db) {ca cb : Array Value} {ta tb : TypeId} (ha : w.heap[eb]? = some (.cells ca ta (0, 0))) (hb : w.heap[db]? = some (.cells cb tb (0, 0))) :
    Calls Try.prog 13 #[.pointer (some ⟨eb, 0, none⟩), .int .i64 off, .int .i64 n, .pointer (some ⟨db, 0, none⟩)] w fun e w' => e = .returned (.bool false) ∧ Below w.heap.size w w' := by
  have h := whole_no eb db off n w hne ha hb
  clear ha hb
  go_enter Try.func13, Try.ntmps13
  go_wp2_with (go_at_call 16; refine h.mono ?_; rintro e w' ⟨rfl, hb⟩)
  go_ret
  exact ⟨rfl, hb⟩
theorem piece_nil (db : Nat) (off n : Int) (w : World) :
    Calls Try.prog 14 #[.int .i64 off, .int .i64 n, .pointer (some ⟨db, 0, none⟩)] w fun e w' => e = .returned (.bool false) ∧ Below w.heap.size w w' := by
  have h := whole_nil db off n w
  go_enter Try.func14, Try.ntmps14
  go_wp2_with (go_at_call 16; refine h.mono ?_; rintro e w' ⟨rfl, hb⟩)
  go_ret
  exact ⟨rfl, hb⟩

/-- A slice of bytes: its elements by a function. -/
def In8 (w : World) (a : Option Addr) (len : Nat) (y : Nat → Int) : Prop :=
  len = 0 ∨ ∃ b off, a = some ⟨b, off, none⟩ ∧ ∀ j, j < len → w.cell? ⟨b, off + j, none⟩ = some (.int .u8 (y j))

/-- A row of bytes of the call's own. -/
def Arr8 (w : World) (g len : Nat) (y : Nat → Int) : Prop := ∀ j, j < len → w.cell? ⟨g, j, none⟩ = some (.int .u8 (y j)) ∧ w.frozen? ⟨g, j, none⟩ = false

theorem Try.info5 : (Try.prog.info? 5).map (fun i => (i.zero, i.size, i.bytes)) = some (some (.int .u8 0), 1, 1) := by kernel_rfl

/-- The block of 'make([]byte, n)'. -/
def byteObj (n : Nat) : Obj := .cells (madeCells #[.int .u8 0] n) 5

theorem arr8_made (w : World) (n : Nat) (y : Nat → Int) : Arr8 (w.alloc (byteObj n)) w.heap.size n (fun j => if j < 0 then y j else 0) := fun j hj => by
  unfold byteObj
  refine ⟨?_, World.frozen?_alloc_new w _ _ j⟩
  rw [World.cell?_alloc_new]
  simp [madeCells, hj, Nat.mod_one]

theorem arr8_set {w : World} {g len k : Nat} {y : Nat → Int} (h : Arr8 w g len (fun j => if j < k then y j else 0)) : Arr8 (w.setCell ⟨g, k, none⟩ (.int .u8 (y k))) g len (fun j => if j < k + 1 then y j else 0) := fun j hj => by
  obtain ⟨h1, h2⟩ := h j hj
  refine ⟨?_, by rw [World.frozen?_setCell]; exact h2⟩
  rw [cell_set1 h1]
  by_cases e : j = k
  · subst e; simp only [if_pos (Nat.lt_succ_self j)]; rfl
  · by_cases hk : j < k
    · simp only [if_neg e, if_pos hk, if_pos (show j < k + 1 by omega)]
    · simp only [if_neg e, if_neg hk, if_neg (show ¬ j < k + 1 by omega)]

set_option maxHeartbeats 1600000 in
/-- zzCloneBytes (what it holds is not asked for here). -/
theorem clone11 (a : Option Addr) (len cap : Nat) (y : Nat → Int) (w : World) (hin : In8 w a len y) (hlen : len ≤ 1048576) :
    Calls Try.prog 11 #[.slice a len cap] w fun e w' => ∃ a' c', e = .returned (.slice a' len c') ∧ Below w.heap.size w w' := by
  have hnil := fun w' : World => Lib.run_eql_slice_nil (P := Try.prog) w' 27 5 a len cap 0 0 Try.underlying27
  have hmk : ∀ w', (Instr.makeSlice 27 (.int .i64 len) (.int .i64 len)).run Try.prog w' = .ok (.slice (some ⟨w'.heap.size, 0, none⟩) len len) (w'.alloc (byteObj len)) :=
    fun w' => run_make_row' (P := Try.prog) 27 5 (.int .u8 0) 1 Try.underlying27 Try.info5 rfl .i64 .i64 len (by omega) (by omega) w'
  cases a with
  | none =>
    have hl : len = 0 := by
      rcases hin with h | ⟨b, off, e, _⟩
      · exact h
      · cases e
    subst hl
    go_enter Try.func11, Try.ntmps11
    go_wp2
    go_ret
    exact ⟨none, 0, rfl, Below.refl _ _⟩
  | some ad =>
    go_enter Try.func11, Try.ntmps11
    go_wp2
    have h0 : Arr8 (w.alloc (byteObj len)) w.heap.size len (fun j => if j < 0 then y j else 0) := arr8_made w len y
    have hb0 : Below w.heap.size w (w.alloc (byteObj len)) := (Below.refl _ _).alloc (Nat.le_refl _) _
    go_loopw [4] (fun i wr => ∃ k : Nat, k ≤ len ∧ i = .int .i64 k ∧ Arr8 wr w.heap.size len (fun j => if j < k then y j else 0) ∧ Below w.heap.size w wr) (fun i _ => len - (intOf i).toNat)
    case atStart => exact ⟨0, Nat.zero_le _, rfl, h0, hb0⟩
    case round =>
      obtain ⟨k, hk, rfl, hA, hb⟩ := hrel
      clear h0 hb0 hmk
      by_cases hk2 : k < len
      · rcases hin with h0 | ⟨b, off, e, hc⟩
        · omega
        cases e
        have hcr := cell_later hb (hc k hk2)
        obtain ⟨y1, y2⟩ := hA k hk2
        have hk3 : (k : Int) < (len : Int) := by omega
        go_wp2
        go_roundw
        case rel => exact ⟨k + 1, by omega, by go_num, arr8_set hA, hb.setCell (Nat.le_refl _) _⟩
        case measure => simp [intOf]; omega
      · go_wp2
        go_ret
        exact ⟨_, _, rfl, hb⟩

theorem zz10_t (a : Option Addr) (len cap : Nat) (off n : Int) (w : World) (h : len ≤ 1048576) :
    Calls Try.prog 10 #[.slice a len cap, .int .i64 off, .int .i64 n] w fun e w' => e = .returned (.bool true) ∧ w' = w := by
  have h1 : ¬ (1048576 : Int) < (len : Int) := by omega
  go_enter Try.func10, Try.ntmps10
  go_wp2
  go_ret
  exact ⟨rfl, rfl⟩
theorem zz10_f (a : Option Addr) (len cap : Nat) (off n : Int) (w : World) (h : ¬ len ≤ 1048576) :
    Calls Try.prog 10 #[.slice a len cap, .int .i64 off, .int .i64 n] w fun e w' => e = .returned (.bool false) ∧ w' = w := by
  have h1 : (1048576 : Int) < (len : Int) := by omega
  go_enter Try.func10, Try.ntmps10
  go_wp2
  go_ret
  exact ⟨rfl, rfl⟩

set_option maxHeartbeats 3200000 in
theorem walk5 (a0 : Option Addr) (len cap : Nat) (off n : Int) (y : Nat → Int) (w : World) (hin : In8 w a0 len y) (hlen : len ≤ 1048576) :
    Calls Try.prog 5 #[.slice a0 len cap, .int .i64 off, .int .i64 n] w fun e w' => e = .returned (.bool true) ∧ Below w.heap.size w w' := by
  have k1 : ¬ (1048576 : Int) < (len : Int) := by omega
  have hcl := clone11 a0 len cap y w hin hlen
  go_enter Try.func5, Try.ntmps5
  go_wp2_with (first | (go_at_call 10; refine (zz10_t a0 len cap off n _ hlen).mono ?_; rintro e w' ⟨rfl, hq⟩; obtain rfl := hq.symm) | (go_at_call 11; refine hcl.mono ?_; rintro e w1 ⟨a, c, rfl, hb1⟩) | (go_at_call 12; refine (new12 _ _ _ _).mono ?_; rintro e w' ⟨rfl, hq⟩; obtain rfl := hq.symm))
  have hW : Below w1.heap.size w1 ((w1.alloc (.cells #[.slice a len c] 40)).alloc (.cells #[.slice a len c] 40)) := ((Below.refl _ _).alloc (Nat.le_refl _) _).alloc (by simp) _
  have hd : ((w1.alloc (.cells #[.slice a len c] 40)).alloc (.cells #[.slice a len c] 40)).heap[w1.heap.size]? = some (.cells #[.slice a len c] 40 (0, 0)) := (Below.heap_alloc _ _ _ (by rw [World.size_alloc]; omega)).trans (heap_alloc_new w1 _)
  have he : ((w1.alloc (.cells #[.slice a len c] 40)).alloc (.cells #[.slice a len c] 40)).heap[w1.heap.size + 1]? = some (.cells #[.slice a len c] 40 (0, 0)) := by
    have h := heap_alloc_new (w1.alloc (.cells #[.slice a len c] 40)) (.cells #[.slice a len c] 40)
    rw [World.size_alloc] at h
    exact h
  have hs : ((w1.alloc (.cells #[.slice a len c] 40)).alloc (.cells #[.slice a len c] 40)).heap.size = w1.heap.size + 2 := by simp
  generalize (w1.alloc (.cells #[.slice a len c] 40)).alloc (.cells #[.slice a len c] 40) = w2 at hW hd he hs ⊢
  have hc2 : w2.cell? ⟨w1.heap.size, 0, none⟩ = some (.slice a len c) := by simp [World.cell?, hd]
  have hy := piece_yes w1.heap.size a len c w2 hc2
  have hk : ∀ w3, Below w2.heap.size w2 w3 → Calls Try.prog 13 #[.pointer (some ⟨w1.heap.size + 1, 0, none⟩), .int .i64 off, .int .i64 n, .pointer (some ⟨w1.heap.size, 0, none⟩)] w3 fun e w' => e = .returned (.bool false) ∧ Below w3.heap.size w3 w' := fun w3 h =>
    piece_no (w1.heap.size + 1) w1.heap.size off n w3 (by omega) ((h.block _ (by omega)).trans he) ((h.block _ (by omega)).trans hd)
  clear hcl hd he
  refine hy.mono ?_
  rintro e w3 ⟨rfl, hb3⟩
  have hk3 := hk w3 hb3
  clear hk hy
  go_wp2_with fail
  refine hk3.mono ?_
  rintro e w4 ⟨rfl, hb4⟩
  clear hk3
  go_wp2_with fail
  refine (piece_nil w1.heap.size off n w4).mono ?_
  rintro e w5 ⟨rfl, hb5⟩
  go_wp2_with fail
  go_ret
  refine ⟨rfl, ?_⟩
  have q2 : Below w.heap.size w w2 := hb1.trans (hW.mono hb1.size)
  have q3 := q2.trans (hb3.mono q2.size)
  have q4 := q3.trans (hb4.mono q3.size)
  exact q4.trans (hb5.mono q4.size)
end Go.Proofs.Qxb6605986a
