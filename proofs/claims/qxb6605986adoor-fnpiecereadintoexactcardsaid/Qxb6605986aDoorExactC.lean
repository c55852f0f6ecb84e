import Derived.Test.Qxb6605986aDoorExactB
namespace Go.Proofs.Qxb6605986aDoor
open Go.RowKit Go.Deep

theorem Arr8.other {w : World} {g h len : Nat} {y : Nat → Int} (hA : Arr8 w g len y) (vs : List Value) (hgh : g ≠ h) (hg : g < w.heap.size) : Arr8 (w.setCells h 0 vs) g len y :=
  hA.kept ((grown_setCells h vs 0 w).block g hg (fun e => hgh (Option.some.inj e)))

set_option maxRecDepth 100000 in
set_option maxHeartbeats 6400000 in
/-- A document: the read that has room. -/
theorem walk4_room (ab : Option Addr) (lb cb o : Nat) (n : Int) (aq : Option Addr) (lq cq : Nat) (yb yq : Nat → Int) (a0 a1' : Addr) (w : World) (hIb : In8 w ab lb yb) (hIq : In8 w aq lq yq) (hz : ∀ w', Calls Tryd.prog 11 #[.bool true, .slice ab lb cb, .int .i64 o, .int .i64 n, .slice aq lq cq] w' fun e w'' => e = .returned (.bool true) ∧ w'' = w')
    (hg : w.cell? ⟨0, 0, none⟩ = some (.iface 63 (.pointer (some a0)))) (hgu : w.cell? ⟨1, 0, none⟩ = some (.iface 63 (.pointer (some a1')))) (h0 : lb ≤ 1048576) (h1 : lq ≤ 1048576) (h2 : lb + lq ≤ 1048576) (ho : o ≤ 2147483647) (hl : 0 < lq) :
    Calls Tryd.prog 4 #[.bool true, .slice ab lb cb, .int .i64 o, .int .i64 n, .slice aq lq cq] w fun e w' => e = .returned (.bool true) ∧ Below w.heap.size w w' := by
  have d0 : decide ((1048576 : Int) < (lb : Int)) = false := by simp; omega
  have d1 : decide ((1048576 : Int) < (lq : Int)) = false := by simp; omega
  have d2 : ¬ ((1048576 : Int) < (lb : Int) + (lq : Int)) := by omega
  have d4 : decide ((o : Int) < 0) = false := by simp
  have d5 : ¬ ((2147483647 : Int) < (o : Int)) := by omega
  have hnn := nil_err
  have hne := err_nil (.pointer (some a1'))
  have hl0 : ¬ lq = 0 := by omega
  have hsz : 1 < w.heap.size := World.block_lt_of_cell? _ _ hgu
  go_enter Tryd.func4, Tryd.ntmps4
  go_wp2_with (go_at_call 11; refine (hz _).mono ?_; rintro e w' ⟨rfl, hs⟩; obtain rfl := hs.symm)
  go_at_call 6
  refine (clone6 ab lb cb yb _ hIb h0).mono ?_
  rintro e w1 ⟨a1, c1, rfl, hC1, hB1⟩
  go_wp2_with fail
  go_at_call 6
  refine (clone6 aq lq cq yq _ (hIq.later hB1) h1).mono ?_
  rintro e w2 ⟨a2, c2, rfl, hC2, hB2⟩
  rcases hC2 with ⟨_, e0, _⟩ | ⟨g2, rfl, ec2, hg2, hg2', hA2⟩
  · exact absurd e0 hl0
  obtain rfl := ec2.symm
  go_wp2_with fail
  go_at_call 6
  refine (clone6 aq lq cq yq _ ((hIq.later hB1).later hB2) h1).mono ?_
  rintro e w3 ⟨a3, c3, rfl, hC3, hB3⟩
  rcases hC3 with ⟨_, e0, _⟩ | ⟨g3, rfl, ec3, hg3, hg3', hA3⟩
  · exact absurd e0 hl0
  obtain rfl := ec3.symm
  go_wp2_with fail
  go_at_call 7
  refine (new7 a1 lb c1 w3).mono ?_
  rintro e w4 ⟨rfl, rfl⟩
  have hb3 : Below w.heap.size w w3 := hB1.trans ((hB2.trans (hB3.mono hB2.size)).mono hB1.size)
  have hL := laidDoc_below w3 a1 lb c1 o n
  have hs5 := laidDoc_size w3 a1 lb c1 o n
  have hD := laidDoc_doc w3 a1 lb c1 o n
  have hb5 := hb3.trans (hL.mono hb3.size)
  have e0 := cell_later hb5 hg
  have e1 := cell_later hb5 hgu
  have A2 := (hA2.later hB3 hg2').later hL (Nat.lt_of_lt_of_le hg2' hB3.size)
  have A3 := hA3.later hL hg3'
  have s12 := hB1.size
  have s23 := hB2.size
  have s34 := hB3.size
  have hgg : w.heap.size ≤ g3 := by omega
  have hB : lb = 0 ∨ ∃ g, a1 = some ⟨g, 0, none⟩ ∧ c1 = lb ∧ g < w1.heap.size ∧ Arr8 (laidDoc w3 a1 lb c1 o n) g lb yb := by
    rcases hC1 with ⟨_, e0, _⟩ | ⟨g1, ea, ec1, hg1, hg1', hA1⟩
    · exact .inl e0
    · exact .inr ⟨g1, ea, ec1, hg1', ((hA1.later hB2 hg1').later hB3 (by omega)).later hL (by omega)⟩
  clear hA2 hA3 hC1 hL hIb hIq
  go_wp2_with fail
  go_at_call 9
  by_cases hlt : o < lb
  · rcases hB with hB | ⟨g1, rfl, ec1, hg1', A1⟩
    · omega
    obtain rfl := ec1.symm
    obtain ⟨k, hk⟩ : ∃ k, k = lb - o := ⟨_, rfl⟩
    have hk1 : o + k ≤ lb := by omega
    have hk2 : lb ≤ o + k := by omega
    clear hk
    have k1 : (o : Int) < (lb : Int) := by omega
    have k2 : (lb : Int) - (o : Int) = (k : Int) := by omega
    have k0 : (0 : Int) < (k : Int) := by omega
    by_cases hfull : lq ≤ k
    · refine (into9 w3.heap.size o n _ lq lq _ _ _ (rd_full w3.heap.size g1 g3 lb lq o yb yq (laidDoc w3 _ lb lb o n) hD A1 A3 hlt (by omega))).mono ?_
      rintro e w6 ⟨rfl, hw6⟩
      have hb6 : Below w.heap.size w w6 := by
        rw [hw6]; exact hb5.grown (grown_setCells _ _ _ _) (by omega) (fun k e => by have := Option.some.inj e; omega)
      have B3 := arr_copy (o := o) (k := lq) (yb := yb) (Nat.le_refl lq) A3
      have B1 := A1.other (cpy yb o lq) (show g1 ≠ g3 by omega) (by omega)
      rw [← hw6] at B1 B3
      have i1 : In8 w6 (some ⟨g1, o, none⟩) lq (fun j => yb (o + j)) := B1.in8 o lq (by omega)
      have i3 : In8 w6 (some ⟨g3, 0, none⟩) lq (fun j => yb (o + j)) := .inr ⟨g3, 0, rfl, fun j hj => by
        have := (B3 j hj).1
        simp only [mixed, if_pos hj] at this
        simpa using this⟩
      clear hw6 B1 B3 A1 A2 A3 hD hs5
      have t1 : (0 : Int) ≤ (lq : Int) := by omega
      have t2 : (o : Int) + (lq : Int) ≤ (lb : Int) := by omega
      have t3 : ¬ lb = o := by omega
      have t4 : IntKind.i64.wrap ((o : Int) + (lq : Int)) = (o : Int) + (lq : Int) := by rw [IntKind.wrap_i64]; omega
      have t5 : (o : Int) ≤ (o : Int) + (lq : Int) := by omega
      have t6 : (0 : Int) < (lq : Int) := by omega
      by_cases hlk : lq < k
      · have t7 : (lq : Int) < (k : Int) := by omega
        go_wp2_with fail
        go_quiet ((go_at_call 10; exact Calls.quiet_of (equal10 _ _ lq _ _ _ _ (i3.drew _) (i1.drew _) (by omega))))
        go_wp2_with fail
        have hb7 := below_drewN hb6 nq
        generalize w6.drewN nq = w7 at hb7 ⊢
        go_quiet ((go_at_call 10; exact Calls.quiet_of (equal10 _ _ _ _ _ yq _ (.inl (by omega)) (.inl (by omega)) (by omega))))
        go_wp2
        go_ret
        exact ⟨rfl, below_drewN hb7 _⟩
      · obtain rfl : lq = k := by omega
        go_wp2_with fail
        go_quiet ((go_at_call 10; exact Calls.quiet_of (equal10 _ _ lq _ _ _ _ (i3.drew _) (i1.drew _) (by omega))))
        go_wp2_with fail
        have hb7 := below_drewN hb6 nq
        generalize w6.drewN nq = w7 at hb7 ⊢
        go_quiet ((go_at_call 10; exact Calls.quiet_of (equal10 _ _ _ _ _ yq _ (.inl (by omega)) (.inl (by omega)) (by omega))))
        go_wp2
        go_ret
        exact ⟨rfl, below_drewN hb7 _⟩
    · refine (into9 w3.heap.size o n _ lq lq _ _ _ (rd_part w3.heap.size g1 g3 lb lq o yb yq a0 a1' (laidDoc w3 _ lb lb o n) hD e0 e1 (by omega) A1 A3 hlt (by omega))).mono ?_
      rintro e w6 ⟨rfl, m6, hw6⟩
      rw [show lb - o = k by omega] at hw6
      have hb6 : Below w.heap.size w w6 := by
        rw [hw6]; exact below_drewN (hb5.grown (grown_setCells _ _ _ _) (by omega) (fun k e => by have := Option.some.inj e; omega)) _
      have B3 := arr_copy (o := o) (k := k) (yb := yb) (show k ≤ lq by omega) A3
      have B2 := A2.other (cpy yb o k) (show g2 ≠ g3 by omega) (by omega)
      have B1 := A1.other (cpy yb o k) (show g1 ≠ g3 by omega) (by omega)
      replace B1 : Arr8 w6 g1 lb yb := by rw [hw6]; exact B1
      replace B2 : Arr8 w6 g2 lq yq := by rw [hw6]; exact B2
      replace B3 : Arr8 w6 g3 lq (mixed yb yq o k) := by rw [hw6]; exact B3
      have i1 : In8 w6 (some ⟨g1, o, none⟩) k (fun j => yb (o + j)) := B1.in8 o k (by omega)
      have i3 : In8 w6 (some ⟨g3, 0, none⟩) k (fun j => yb (o + j)) := .inr ⟨g3, 0, rfl, fun j hj => by
        have := (B3 j (by omega)).1
        simp only [mixed, if_pos hj] at this
        simpa using this⟩
      have i2 : In8 w6 (some ⟨g2, k, none⟩) (lq - k) (fun j => yq (k + j)) := B2.in8 k (lq - k) (by omega)
      have i4 : In8 w6 (some ⟨g3, k, none⟩) (lq - k) (fun j => yq (k + j)) := .inr ⟨g3, k, rfl, fun j hj => by
        have := (B3 (k + j) (by omega)).1
        simp only [mixed, if_neg (show ¬ k + j < k by omega)] at this
        exact this⟩
      clear hw6 B1 B2 B3 A1 A2 A3 hD hs5
      have t1 : (0 : Int) ≤ (k : Int) := by omega
      have t2 : (o : Int) + (k : Int) ≤ (lb : Int) := by omega
      have t3 : ¬ lb = o := by omega
      have t4 : IntKind.i64.wrap ((o : Int) + (k : Int)) = (o : Int) + (k : Int) := by rw [IntKind.wrap_i64]; omega
      have t5 : (o : Int) ≤ (o : Int) + (k : Int) := by omega
      have t6 : (k : Int) ≤ (lq : Int) := by omega
      have t7 : ¬ (lq : Int) < (k : Int) := by omega
      have t8 : ¬ lq = k := by omega
      have t9 : ((k : Int) == (lq : Int)) = false := by rw [beq_eq_false_iff_ne]; omega
      go_wp2_with fail
      go_quiet ((go_at_call 10; exact Calls.quiet_of (equal10 _ _ k _ _ _ _ (i3.drew _) (i1.drew _) (by omega))))
      go_wp2_with fail
      have hb7 := below_drewN hb6 nq
      have j2 := i2.drew nq
      have j4 := i4.drew nq
      generalize w6.drewN nq = w7 at hb7 j2 j4 ⊢
      go_quiet ((go_at_call 10; exact Calls.quiet_of (equal10 _ _ (lq - k) _ _ _ _ (j4.drew _) (j2.drew _) (by omega))))
      go_wp2
      go_ret
      exact ⟨rfl, below_drewN hb7 _⟩
  · refine (into9 w3.heap.size o n _ lq lq _ _ _ (rd_end w3.heap.size a1 lb c1 _ lq lq o a0 a1' (laidDoc w3 a1 lb c1 o n) hD e0 e1 (by omega) hl)).mono ?_
    rintro e w6 ⟨rfl, hB6⟩
    have hb6 := hb5.trans (hB6.mono hb5.size)
    have B2 := A2.later hB6 (by omega)
    have B3 := A3.later hB6 (by omega)
    have i2 : In8 w6 (some ⟨g2, 0, none⟩) lq (fun j => yq (0 + j)) := B2.in8 0 lq (by omega)
    have i3 : In8 w6 (some ⟨g3, 0, none⟩) lq (fun j => yq (0 + j)) := B3.in8 0 lq (by omega)
    clear hB6 B2 B3 A2 A3 hD hs5 hB
    have k1 : ¬ (o : Int) < (lb : Int) := by omega
    have t7 : ¬ (lq : Int) < 0 := by omega
    have t9 : ((0 : Int) == (lq : Int)) = false := by rw [beq_eq_false_iff_ne]; omega
    go_wp2_with fail
    go_quiet ((go_at_call 10; exact Calls.quiet_of (equal10 _ _ lq _ _ _ _ (i3.drew _) (i2.drew _) (by omega))))
    go_wp2
    go_ret
    exact ⟨rfl, below_drewN hb6 _⟩
end Go.Proofs.Qxb6605986aDoor
