import Derived.Test.Qxb6605986aDoorInto
import Derived.BigQuiet
namespace Go.Proofs.Qxb6605986aDoor
open Go.RowKit Go.Deep

theorem nil_err (w : World) : (binOp .eql 29 .nilIface .nilIface).run Tryd.prog w = .ok (.bool true) w := by kernel_rfl

theorem In8.drew {w : World} {a : Option Addr} {len : Nat} {y : Nat → Int} (h : In8 w a len y) (m : Nat) : In8 (w.drewN m) a len y := h

theorem Arr8.in8 {w : World} {g len : Nat} {y : Nat → Int} (h : Arr8 w g len y) (o k : Nat) (hk : o + k ≤ len) : In8 w (some ⟨g, o, none⟩) k (fun j => y (o + j)) :=
  .inr ⟨g, o, rfl, fun j hj => (h (o + j) (by omega)).1⟩

/-- The address of a reslice: where nothing is left, another one may stand. -/
theorem In8.part {w : World} {p : Prop} [Decidable p] {x a : Option Addr} {len : Nat} {y : Nat → Int} (h : In8 w a len y) (hp : p → len = 0) : In8 w (if p then x else a) len y := by
  by_cases e : p
  · exact .inl (hp e)
  · rw [if_neg e]; exact h

set_option maxHeartbeats 1600000 in
theorem zz11 (d : Bool) (a0 a1 : Option Addr) (l0 c0 l1 c1 : Nat) (x y : Int) : ∃ b, ∀ w,
    Calls Tryd.prog 11 #[.bool d, .slice a0 l0 c0, .int .i64 x, .int .i64 y, .slice a1 l1 c1] w fun e w' => e = .returned (.bool b) ∧ w' = w := by
  by_cases h0 : l0 ≤ 1048576
  · have k0 : ¬ (1048576 : Int) < (l0 : Int) := by omega
    by_cases h1 : l1 ≤ 1048576
    · have k1 : ¬ (1048576 : Int) < (l1 : Int) := by omega
      by_cases h01 : l0 + l1 ≤ 1048576
      · have k01 : ¬ (1048576 : Int) < (l0 : Int) + (l1 : Int) := by omega
        refine ⟨true, fun w => ?_⟩
        go_enter Tryd.func11, Tryd.ntmps11
        go_wp2
        go_ret
        exact ⟨rfl, rfl⟩
      · have k01 : (1048576 : Int) < (l0 : Int) + (l1 : Int) := by omega
        refine ⟨false, fun w => ?_⟩
        go_enter Tryd.func11, Tryd.ntmps11
        go_wp2
        go_ret
        exact ⟨rfl, rfl⟩
    · have k1 : (1048576 : Int) < (l1 : Int) := by omega
      refine ⟨false, fun w => ?_⟩
      go_enter Tryd.func11, Tryd.ntmps11
      go_wp2
      go_ret
      exact ⟨rfl, rfl⟩
  · have k0 : (1048576 : Int) < (l0 : Int) := by omega
    refine ⟨false, fun w => ?_⟩
    go_enter Tryd.func11, Tryd.ntmps11
    go_wp2
    go_ret
    exact ⟨rfl, rfl⟩

set_option maxRecDepth 100000 in
set_option maxHeartbeats 6400000 in
/-- No document: the newline piece. -/
theorem walk4_nil (ab : Option Addr) (lb cb : Nat) (off n : Int) (aq : Option Addr) (lq cq : Nat) (yq : Nat → Int) (w : World) (hI : In8 w aq lq yq) (hz : ∀ w', Calls Tryd.prog 11 #[.bool false, .slice ab lb cb, .int .i64 off, .int .i64 n, .slice aq lq cq] w' fun e w'' => e = .returned (.bool true) ∧ w'' = w')
    (h0 : lb ≤ 1048576) (h1 : lq ≤ 1048576) (h2 : lb + lq ≤ 1048576) :
    Calls Tryd.prog 4 #[.bool false, .slice ab lb cb, .int .i64 off, .int .i64 n, .slice aq lq cq] w fun e w' => e = .returned (.bool true) ∧ Below w.heap.size w w' := by
  have d0 : decide ((1048576 : Int) < (lb : Int)) = false := by simp; omega
  have d1 : decide ((1048576 : Int) < (lq : Int)) = false := by simp; omega
  have d2 : ¬ ((1048576 : Int) < (lb : Int) + (lq : Int)) := by omega
  by_cases hl : lq = 0
  · subst hl
    go_enter Tryd.func4, Tryd.ntmps4
    go_wp2_with (go_at_call 11; refine (hz _).mono ?_; rintro e w' ⟨rfl, hs⟩; obtain rfl := hs.symm)
    go_ret
    exact ⟨rfl, Below.refl _ _⟩
  · have k3 : ((lq : Int) == 0) = false := by rw [beq_eq_false_iff_ne]; omega
    have hnn := nil_err
    go_enter Tryd.func4, Tryd.ntmps4
    go_wp2_with (go_at_call 11; refine (hz _).mono ?_; rintro e w' ⟨rfl, hs⟩; obtain rfl := hs.symm)
    go_at_call 6
    refine (clone6 aq lq cq yq _ hI h1).mono ?_
    rintro e w1 ⟨a1, c1, rfl, hC1, hB1⟩
    go_wp2_with fail
    go_at_call 6
    refine (clone6 aq lq cq yq _ (hI.later hB1) h1).mono ?_
    rintro e w2 ⟨a2, c2, rfl, hC2, hB2⟩
    rcases hC1 with ⟨_, e0, _⟩ | ⟨g1, rfl, ec1, hg1, hg1', hA1⟩
    · exact absurd e0 hl
    rcases hC2 with ⟨_, e0, _⟩ | ⟨g2, rfl, ec2, hg2, hg2', hA2⟩
    · exact absurd e0 hl
    obtain rfl := ec1.symm
    obtain rfl := ec2.symm
    have hc := hA2 0 (by omega)
    go_wp2_with fail
    go_at_call 12
    refine (nl12 off n g2 _ _ _ _ (by omega) hc.1 hc.2).mono ?_
    rintro e w3 ⟨rfl, hw3⟩
    have hb3 : Below w.heap.size w w3 := by
      rw [hw3]
      exact ((hB1.trans (hB2.mono (Nat.le_of_lt (Nat.lt_of_le_of_lt hg1 hg1')))).alloc (Nat.le_trans hB1.size hB2.size) _).setCell (Nat.le_trans hg1 (Nat.le_of_lt (Nat.lt_of_lt_of_le hg1' hg2))) _
    have cq0 : w3.cell? ⟨g2, 0, none⟩ = some (.int .u8 10) := by
      rw [hw3]
      exact World.cell?_setCell_same _ _ _ ((World.cell?_alloc_lt _ _ _ hg2').trans hc.1)
    have i1 : In8 w3 (some ⟨g1, 1, none⟩) (lq - 1) (fun j => yq (1 + j)) := .inr ⟨g1, 1, rfl, fun j hj => by
      rw [hw3, World.cell?_setCell_other _ _ _ _ (fun q => by injection q; omega), World.cell?_alloc_lt _ _ _ (show g1 < _ from Nat.lt_of_lt_of_le hg1' hB2.size)]
      exact ((hA1.later hB2 hg1') (1 + j) (by omega)).1⟩
    have i2 : In8 w3 (some ⟨g2, 1, none⟩) (lq - 1) (fun j => yq (1 + j)) := .inr ⟨g2, 1, rfl, fun j hj => by
      rw [hw3, World.cell?_setCell_other _ _ _ _ (fun q => by injection q; omega), World.cell?_alloc_lt _ _ _ hg2']
      exact (hA2 (1 + j) (by omega)).1⟩
    clear hw3 hA1 hA2 hc
    have k4 : (1 : Int) ≤ (lq : Int) := by omega
    have k7 : 0 < lq := by omega
    have k8 : 1 ≤ lq := by omega
    have k9 : ¬ ((lq : Int) < 1) := by omega
    have k6 : (0 : Int) < (lq : Int) := by omega
    go_wp2_with fail
    go_quiet ((go_at_call 10; exact Calls.quiet_of (equal10 _ _ _ _ _ _ _ ((i2.drew _).part (by omega)) ((i1.drew _).part (by omega)) (by omega))))
    go_wp2
    all_goals go_ret
    all_goals exact ⟨rfl, below_drewN hb3 _⟩
end Go.Proofs.Qxb6605986aDoor
