import Derived.Test.Qxb6605986aDoorExactA
namespace Go.Proofs.Qxb6605986aDoor
open Go.RowKit Go.Deep

/-- The world ahead of the read: the document and the piece laid. -/
def laidDoc (w : World) (a : Option Addr) (len cap : Nat) (off n : Int) : World := (w.alloc (.cells #[.slice a len cap] 35)).alloc (pcObj (.iface 25 (.pointer (some ⟨w.heap.size, 0, none⟩))) off n)

theorem laidDoc_below (w : World) (a : Option Addr) (len cap : Nat) (off n : Int) : Below w.heap.size w (laidDoc w a len cap off n) :=
  ((Below.refl _ _).alloc (Nat.le_refl _) _).alloc (by rw [World.size_alloc]; omega) _

theorem laidDoc_size (w : World) (a : Option Addr) (len cap : Nat) (off n : Int) : (laidDoc w a len cap off n).heap.size = w.heap.size + 2 := by
  unfold laidDoc; rw [World.size_alloc, World.size_alloc]

theorem laidDoc_doc (w : World) (a : Option Addr) (len cap : Nat) (off n : Int) : (laidDoc w a len cap off n).cell? ⟨w.heap.size, 0, none⟩ = some (.slice a len cap) :=
  (World.cell?_alloc_lt _ _ _ (by show w.heap.size < _; rw [World.size_alloc]; omega)).trans (World.cell?_alloc_new _ _ _ 0)

set_option maxRecDepth 100000 in
set_option maxHeartbeats 6400000 in
/-- A document: the read that has no room. -/
theorem walk4_none (ab : Option Addr) (lb cb o : Nat) (n : Int) (aq : Option Addr) (cq : Nat) (yb yq : Nat → Int) (a0 : Addr) (w : World) (hIb : In8 w ab lb yb) (hIq : In8 w aq 0 yq) (hz : ∀ w', Calls Tryd.prog 11 #[.bool true, .slice ab lb cb, .int .i64 o, .int .i64 n, .slice aq 0 cq] w' fun e w'' => e = .returned (.bool true) ∧ w'' = w')
    (hg : w.cell? ⟨0, 0, none⟩ = some (.iface 63 (.pointer (some a0)))) (h0 : lb ≤ 1048576) (ho : o ≤ 2147483647) :
    Calls Tryd.prog 4 #[.bool true, .slice ab lb cb, .int .i64 o, .int .i64 n, .slice aq 0 cq] w fun e w' => e = .returned (.bool true) ∧ Below w.heap.size w w' := by
  have d0 : decide ((1048576 : Int) < (lb : Int)) = false := by simp; omega
  have d4 : decide ((o : Int) < 0) = false := by simp
  have d5 : ¬ ((2147483647 : Int) < (o : Int)) := by omega
  have hnn := nil_err
  go_enter Tryd.func4, Tryd.ntmps4
  go_wp2_with (go_at_call 11; refine (hz _).mono ?_; rintro e w' ⟨rfl, hs⟩; obtain rfl := hs.symm)
  go_at_call 6
  refine (clone6 ab lb cb yb _ hIb h0).mono ?_
  rintro e w1 ⟨a1, c1, rfl, hC1, hB1⟩
  go_wp2_with fail
  go_at_call 6
  refine (clone6 aq 0 cq yq _ (hIq.later hB1) (Nat.zero_le _)).mono ?_
  rintro e w2 ⟨a2, c2, rfl, -, hB2⟩
  go_wp2_with fail
  go_at_call 6
  refine (clone6 aq 0 cq yq _ ((hIq.later hB1).later hB2) (Nat.zero_le _)).mono ?_
  rintro e w3 ⟨a3, c3, rfl, -, hB3⟩
  go_wp2_with fail
  go_at_call 7
  refine (new7 a1 lb c1 w3).mono ?_
  rintro e w4 ⟨rfl, rfl⟩
  have hb3 : Below w.heap.size w w3 := hB1.trans ((hB2.trans (hB3.mono hB2.size)).mono hB1.size)
  have hb5 := hb3.trans ((laidDoc_below w3 a1 lb c1 o n).mono hb3.size)
  go_wp2_with fail
  go_at_call 9
  refine (into9 w3.heap.size o n a3 0 c3 _ _ _ (rd_none w3.heap.size a1 lb c1 a3 c3 o a0 (laidDoc w3 a1 lb c1 o n) (laidDoc_doc _ _ _ _ _ _) (cell_later hb5 hg) (fun hlt => by
    rcases hC1 with ⟨_, e0, _⟩ | ⟨g, ea, ec, _⟩
    · omega
    · exact ⟨g, ea, ec⟩))).mono ?_
  rintro e w6 ⟨rfl, hB6⟩
  have hb6 := hb5.trans (hB6.mono hb5.size)
  clear hB6
  by_cases hlt : o < lb
  · have k1 : (o : Int) < (lb : Int) := by omega
    have k2 : (0 : Int) < (lb : Int) - (o : Int) := by omega
    go_wp2_with fail
    go_quiet ((go_at_call 10; exact Calls.quiet_of (equal10 _ _ 0 _ _ yq _ (.inl rfl) (.inl rfl) (by omega))))
    go_wp2
    go_ret
    exact ⟨rfl, below_drewN hb6 _⟩
  · have k1 : ¬ (o : Int) < (lb : Int) := by omega
    go_wp2_with fail
    go_quiet ((go_at_call 10; exact Calls.quiet_of (equal10 _ _ 0 _ _ yq _ (.inl rfl) (.inl rfl) (by omega))))
    go_wp2
    go_ret
    exact ⟨rfl, below_drewN hb6 _⟩
end Go.Proofs.Qxb6605986aDoor
