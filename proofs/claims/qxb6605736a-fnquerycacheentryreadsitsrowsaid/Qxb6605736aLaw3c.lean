import Derived.Test.Qxb6605736aLaw3
namespace Go.Proofs.Qxb6605736a
open Go.RowKit Go.Deep

set_option maxRecDepth 100000 in
set_option maxHeartbeats 6400000 in
/-- The whole of the third law: the ways that answer at once, and the main way. -/
theorem law5 (a0 a1 a2 a3 : Option Addr) (l0 c0 l1 c1 l2 c2 l3 c3 : Nat) (b1 b2 b3 : Bool) (x : Nat → Nat) (y1 y2 y3 : Nat → Int) (w : World) (hx : In32 w a0 l0 x) (i1 : In64 w a1 l1 y1) (i2 : In64 w a2 l2 y2) (i3 : In64 w a3 l3 y3) :
    Calls Try.prog 5 #[.slice a0 l0 c0, .bool b1, .slice a1 l1 c1, .bool b2, .slice a2 l2 c2, .bool b3, .slice a3 l3 c3] w fun e w' => e = .returned (.bool true) ∧ Below w.heap.size w w' := by
  obtain ⟨b, hz⟩ := zz16 a0 a1 a2 a3 l0 c0 l1 c1 l2 c2 l3 c3 b1 b2 b3
  cases b with
  | false =>
    go_enter Try.func5, Try.ntmps5
    go_wp2_with (first | (go_at_call 16; refine (hz _).mono ?_; rintro e w' ⟨rfl, hq⟩; obtain rfl := hq.symm))
    go_ret
    exact ⟨rfl, Below.refl _ _⟩
  | true =>
    by_cases e0 : l0 ≤ 65536
    · have d0 : decide ((65536 : Int) < (l0 : Int)) = false := by simp; omega
      by_cases e1 : l1 ≤ 65536
      · have d1 : decide ((65536 : Int) < (l1 : Int)) = false := by simp; omega
        by_cases e2 : l2 ≤ 65536
        · have d2 : decide ((65536 : Int) < (l2 : Int)) = false := by simp; omega
          by_cases e3 : l3 ≤ 65536
          · have d3 : decide ((65536 : Int) < (l3 : Int)) = false := by simp; omega
            by_cases e4 : 4 * l0 + 8 * (l1 + l2 + l3) ≤ 1048576
            · have d4 : ¬ ((1048576 : Int) < 4 * (l0 : Int) + 8 * ((l1 : Int) + (l2 : Int) + (l3 : Int))) := by omega
              cases f1 : cf b1 l1 l0 with
              | false =>
                clear hx i1 i2 i3
                go_enter Try.func5, Try.ntmps5
                go_wp2_with (first | (go_at_call 16; refine (hz _).mono ?_; rintro e w' ⟨rfl, hq⟩; obtain rfl := hq.symm) | (go_at_call 17; refine (cf17 _ _ _ _).mono ?_; rintro e w' ⟨rfl, hq⟩; obtain rfl := hq.symm))
                go_ret
                exact ⟨rfl, Below.refl _ _⟩
              | true =>
                cases f2 : cf b2 l2 l0 with
                | false =>
                  clear hx i1 i2 i3
                  go_enter Try.func5, Try.ntmps5
                  go_wp2_with (first | (go_at_call 16; refine (hz _).mono ?_; rintro e w' ⟨rfl, hq⟩; obtain rfl := hq.symm) | (go_at_call 17; refine (cf17 _ _ _ _).mono ?_; rintro e w' ⟨rfl, hq⟩; obtain rfl := hq.symm))
                  go_ret
                  exact ⟨rfl, Below.refl _ _⟩
                | true =>
                  cases f3 : cf b3 l3 l0 with
                  | false =>
                    clear hx i1 i2 i3
                    go_enter Try.func5, Try.ntmps5
                    go_wp2_with (first | (go_at_call 16; refine (hz _).mono ?_; rintro e w' ⟨rfl, hq⟩; obtain rfl := hq.symm) | (go_at_call 17; refine (cf17 _ _ _ _).mono ?_; rintro e w' ⟨rfl, hq⟩; obtain rfl := hq.symm))
                    go_ret
                    exact ⟨rfl, Below.refl _ _⟩
                  | true => exact walk5 a0 a1 a2 a3 l0 c0 l1 c1 l2 c2 l3 c3 b1 b2 b3 x y1 y2 y3 w hx i1 i2 i3 hz e0 e1 e2 e3 e4 f1 f2 f3
            · have d4 : (1048576 : Int) < 4 * (l0 : Int) + 8 * ((l1 : Int) + (l2 : Int) + (l3 : Int)) := by omega
              clear hx i1 i2 i3
              go_enter Try.func5, Try.ntmps5
              go_wp2_with (first | (go_at_call 16; refine (hz _).mono ?_; rintro e w' ⟨rfl, hq⟩; obtain rfl := hq.symm))
              go_ret
              exact ⟨rfl, Below.refl _ _⟩
          · have d3 : (65536 : Int) < (l3 : Int) := by omega
            clear hx i1 i2 i3
            go_enter Try.func5, Try.ntmps5
            go_wp2_with (first | (go_at_call 16; refine (hz _).mono ?_; rintro e w' ⟨rfl, hq⟩; obtain rfl := hq.symm))
            go_ret
            exact ⟨rfl, Below.refl _ _⟩
        · have d2 : (65536 : Int) < (l2 : Int) := by omega
          clear hx i1 i2 i3
          go_enter Try.func5, Try.ntmps5
          go_wp2_with (first | (go_at_call 16; refine (hz _).mono ?_; rintro e w' ⟨rfl, hq⟩; obtain rfl := hq.symm))
          go_ret
          exact ⟨rfl, Below.refl _ _⟩
      · have d1 : (65536 : Int) < (l1 : Int) := by omega
        clear hx i1 i2 i3
        go_enter Try.func5, Try.ntmps5
        go_wp2_with (first | (go_at_call 16; refine (hz _).mono ?_; rintro e w' ⟨rfl, hq⟩; obtain rfl := hq.symm))
        go_ret
        exact ⟨rfl, Below.refl _ _⟩
    · have d0 : (65536 : Int) < (l0 : Int) := by omega
      clear hx i1 i2 i3
      go_enter Try.func5, Try.ntmps5
      go_wp2_with (first | (go_at_call 16; refine (hz _).mono ?_; rintro e w' ⟨rfl, hq⟩; obtain rfl := hq.symm))
      go_ret
      exact ⟨rfl, Below.refl _ _⟩
end Go.Proofs.Qxb6605736a
