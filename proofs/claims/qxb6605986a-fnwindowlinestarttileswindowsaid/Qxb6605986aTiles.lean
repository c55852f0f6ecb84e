import Derived.Test.Qxb6605986aBase
namespace Go.Proofs.Qxb6605986a
open Go.RowKit Go.Deep

theorem zz6_t (s : Int) (a : Option Addr) (len cap : Nat) (w : World) (h : len ≤ 1048576) :
    Calls Try.prog 6 #[.int .i64 s, .slice a len cap] w fun e w' => e = .returned (.bool true) ∧ w' = w := by
  have h1 : ¬ (1048576 : Int) < (len : Int) := by omega
  go_enter Try.func6, Try.ntmps6
  go_wp2
  go_ret
  exact ⟨rfl, rfl⟩
theorem zz6_f (s : Int) (a : Option Addr) (len cap : Nat) (w : World) (h : ¬ len ≤ 1048576) :
    Calls Try.prog 6 #[.int .i64 s, .slice a len cap] w fun e w' => e = .returned (.bool false) ∧ w' = w := by
  have h1 : (1048576 : Int) < (len : Int) := by omega
  go_enter Try.func6, Try.ntmps6
  go_wp2
  go_ret
  exact ⟨rfl, rfl⟩

/-- The sum of the lengths of the first k lines. -/
def sm (s : Int) (y : Nat → Int) (k : Nat) : Int := if k = 0 then 0 else wrap64 (y (k - 1) - s)

theorem sm_zero (s : Int) (y : Nat → Int) : wrap64 (sm s y 0 + wrap64 (y 0 - s)) = sm s y (0 + 1) := by
  simp only [sm, if_pos, Nat.zero_add, Nat.sub_self]
  rw [if_neg (by decide)]
  unfold wrap64; omega
theorem sm_succ (s : Int) (y : Nat → Int) (k : Nat) : wrap64 (sm s y (k + 1) + wrap64 (y (k + 1) - y k)) = sm s y (k + 1 + 1) := by
  have e1 : sm s y (k + 1) = wrap64 (y k - s) := rfl
  have e2 : sm s y (k + 1 + 1) = wrap64 (y (k + 1) - s) := rfl
  rw [e1, e2]
  unfold wrap64; omega

set_option maxHeartbeats 3200000 in
theorem walk3 (s : Int) (a0 : Option Addr) (len cap : Nat) (y : Nat → Int) (w : World) (hin : In64 w a0 len y) (hlen : len ≤ 131072) :
    Calls Try.prog 3 #[.int .i64 s, .slice a0 len cap] w fun e w' => e = .returned (.bool true) ∧ Below w.heap.size w w' := by
  have k1 : ¬ (131072 : Int) < (len : Int) := by omega
  have k1b : decide ((131072 : Int) < (len : Int)) = false := by simp; omega
  have hcl := clone7 a0 len cap y w hin hlen
  go_enter Try.func3, Try.ntmps3
  go_wp2_with (first | (go_at_call 6; refine (zz6_t s a0 len cap _ (by omega)).mono ?_; rintro e w' ⟨rfl, hq⟩; obtain rfl := hq.symm) | (go_at_call 7; refine hcl.mono ?_; rintro e w1 ⟨a, c, rfl, h1, hb1⟩))
  go_loopw [6, 7] (fun t i wr => ∃ k : Nat, k ≤ len ∧ i = .int .i64 k ∧ t = .int .i64 (sm s y k) ∧ Below w1.heap.size w1 wr) (fun _ i _ => len - (intOf i).toNat)
  case atStart => exact ⟨0, Nat.zero_le _, rfl, rfl, Below.refl _ _⟩
  case round =>
    obtain ⟨k, hk, rfl, rfl, hb⟩ := hrel
    by_cases hk2 : k < len
    · have hk3 : (k : Int) < (len : Int) := by omega
      have hst := start8 s a len c k y wr (h1.later hb) (by omega) hlen
      rcases h1 with h0 | ⟨b, off, rfl, hc⟩
      · omega
      have hck := cell_later hb (hc k hk2)
      cases k with
      | zero =>
        have e : ls s y 0 = s := rfl
        rw [e] at hst
        rw [Nat.add_zero] at hck
        go_wp2_with (go_at_call 8; refine hst.mono ?_; rintro e w2 ⟨rfl, hb2⟩; have hck2 := cell_later hb2 hck)
        go_roundw
        case rel => exact ⟨0 + 1, by omega, by go_num, congrArg (Value.int .i64) (sm_zero s y), hb.trans (hb2.mono hb.size)⟩
        case measure => simp [intOf]; omega
      | succ k =>
        have e : ls s y (k + 1) = y k := by simp [ls]
        have hcp := cell_later hb (hc k (by omega))
        have k2 : (((k + 1 : Nat) : Int) == 0) = false := by rw [beq_eq_false_iff_ne]; omega
        rw [e] at hst
        have k3 : ((k + 1 : Nat) : Int) = (k : Int) + 1 := by omega
        rw [k3] at hst k2 hk3 ⊢
        go_wp2_with (go_at_call 8; refine hst.mono ?_; rintro e w2 ⟨rfl, hb2⟩; have hck2 := cell_later hb2 hck; have hcp2 := cell_later hb2 hcp)
        go_roundw
        case rel => exact ⟨k + 1 + 1, by omega, by go_num, congrArg (Value.int .i64) (sm_succ s y k), hb.trans (hb2.mono hb.size)⟩
        case measure => simp [intOf]; omega
    · have e : len = k := by omega
      subst e
      have hst := start8 s a len c len y wr (h1.later hb) (by omega) hlen
      have hbel : ∀ w2, Below wr.heap.size wr w2 → Below w.heap.size w w2 := fun w2 h => hb1.trans ((hb.trans (h.mono hb.size)).mono hb1.size)
      cases len with
      | zero =>
        have e : ls s y 0 = s := rfl
        rw [e] at hst
        go_wp2_with (go_at_call 8; refine hst.mono ?_; rintro e w2 ⟨rfl, hb2⟩)
        go_ret
        exact ⟨rfl, hbel _ hb2⟩
      | succ n =>
        have e : ls s y (n + 1) = y n := by simp [ls]
        have e2 : sm s y (n + 1) = wrap64 (y n - s) := rfl
        rcases h1 with h0 | ⟨b, off, rfl, hc⟩
        · omega
        have hcp := cell_later hb (hc n (by omega))
        have k2 : (((n + 1 : Nat) : Int) == 0) = false := by rw [beq_eq_false_iff_ne]; omega
        rw [e] at hst
        rw [e2]
        have k3 : ((n + 1 : Nat) : Int) = (n : Int) + 1 := by omega
        have k4 : (n : Int) < (n : Int) + 1 := by omega
        rw [k3] at hst k2 ⊢
        go_wp2_with (go_at_call 8; refine hst.mono ?_; rintro e w2 ⟨rfl, hb2⟩; have hcp2 := cell_later hb2 hcp)
        go_ret
        exact ⟨rfl, hbel _ hb2⟩
end Go.Proofs.Qxb6605986a
