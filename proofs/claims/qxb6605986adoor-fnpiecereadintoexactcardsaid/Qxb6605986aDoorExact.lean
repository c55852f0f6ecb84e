import Derived.Test.Qxb6605986aDoorExactC
namespace Go.Proofs.Qxb6605986aDoor
open Go.RowKit Go.Deep

set_option maxRecDepth 100000 in
set_option maxHeartbeats 6400000 in
/-- The whole of FnPieceReadIntoExact: the ways that answer at once, and the three walks. -/
theorem law4 (hasDoc : Bool) (ab : Option Addr) (lb cb : Nat) (off n : Int) (aq : Option Addr) (lq cq : Nat) (yb yq : Nat → Int) (a0 a1 : Addr) (w : World) (hIb : In8 w ab lb yb) (hIq : In8 w aq lq yq)
    (hg : w.cell? ⟨0, 0, none⟩ = some (.iface 63 (.pointer (some a0)))) (hgu : w.cell? ⟨1, 0, none⟩ = some (.iface 63 (.pointer (some a1)))) :
    Calls Tryd.prog 4 #[.bool hasDoc, .slice ab lb cb, .int .i64 off, .int .i64 n, .slice aq lq cq] w fun e w' => e = .returned (.bool true) ∧ Below w.heap.size w w' := by
  obtain ⟨b, hz⟩ := zz11 hasDoc ab aq lb cb lq cq off n
  cases b with
  | false =>
    clear hIb hIq
    go_enter Tryd.func4, Tryd.ntmps4
    go_wp2_with (go_at_call 11; refine (hz _).mono ?_; rintro e w' ⟨rfl, hs⟩; obtain rfl := hs.symm)
    go_ret
    exact ⟨rfl, Below.refl _ _⟩
  | true =>
    by_cases h0 : lb ≤ 1048576
    · have d0 : decide ((1048576 : Int) < (lb : Int)) = false := by simp; omega
      by_cases h1 : lq ≤ 1048576
      · have d1 : decide ((1048576 : Int) < (lq : Int)) = false := by simp; omega
        by_cases h2 : lb + lq ≤ 1048576
        · have d2 : ¬ ((1048576 : Int) < (lb : Int) + (lq : Int)) := by omega
          cases hasDoc with
          | false => exact walk4_nil ab lb cb off n aq lq cq yq w hIq hz h0 h1 h2
          | true =>
            by_cases h3 : off < 0
            · have d3 : decide (off < 0) = true := by simp; omega
              clear hIb hIq
              go_enter Tryd.func4, Tryd.ntmps4
              go_wp2_with (go_at_call 11; refine (hz _).mono ?_; rintro e w' ⟨rfl, hs⟩; obtain rfl := hs.symm)
              go_ret
              exact ⟨rfl, Below.refl _ _⟩
            · by_cases h4 : off ≤ 2147483647
              · obtain ⟨o, rfl⟩ := Int.eq_ofNat_of_zero_le (show 0 ≤ off by omega)
                by_cases h5 : lq = 0
                · subst h5
                  exact walk4_none ab lb cb o n aq cq yb yq a0 w hIb hIq hz hg h0 (by omega)
                · exact walk4_room ab lb cb o n aq lq cq yb yq a0 a1 w hIb hIq hz hg hgu h0 h1 h2 (by omega) (by omega)
              · have d3 : decide (off < 0) = false := by simp; omega
                have d4 : (2147483647 : Int) < off := by omega
                clear hIb hIq
                go_enter Tryd.func4, Tryd.ntmps4
                go_wp2_with (go_at_call 11; refine (hz _).mono ?_; rintro e w' ⟨rfl, hs⟩; obtain rfl := hs.symm)
                go_ret
                exact ⟨rfl, Below.refl _ _⟩
        · have d2 : ((1048576 : Int) < (lb : Int) + (lq : Int)) := by omega
          have d3 : IntKind.i64.wrap ((lb : Int) + (lq : Int)) = (lb : Int) + (lq : Int) := by rw [IntKind.wrap_i64]; omega
          clear hIb hIq
          go_enter Tryd.func4, Tryd.ntmps4
          go_wp2_with (go_at_call 11; refine (hz _).mono ?_; rintro e w' ⟨rfl, hs⟩; obtain rfl := hs.symm)
          go_ret
          exact ⟨rfl, Below.refl _ _⟩
      · have d1 : (1048576 : Int) < (lq : Int) := by omega
        clear hIb hIq
        go_enter Tryd.func4, Tryd.ntmps4
        go_wp2_with (go_at_call 11; refine (hz _).mono ?_; rintro e w' ⟨rfl, hs⟩; obtain rfl := hs.symm)
        go_ret
        exact ⟨rfl, Below.refl _ _⟩
    · have d0 : (1048576 : Int) < (lb : Int) := by omega
      clear hIb hIq
      go_enter Tryd.func4, Tryd.ntmps4
      go_wp2_with (go_at_call 11; refine (hz _).mono ?_; rintro e w' ⟨rfl, hs⟩; obtain rfl := hs.symm)
      go_ret
      exact ⟨rfl, Below.refl _ _⟩
end Go.Proofs.Qxb6605986aDoor
