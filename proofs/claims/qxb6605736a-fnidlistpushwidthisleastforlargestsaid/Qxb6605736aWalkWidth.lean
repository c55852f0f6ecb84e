import Derived.Test.Qxb6605736aSmall
namespace Go.Proofs.Qxb6605736a
open Go.RowKit Go.Deep

/-- What holds behind k pushes of x onto the list at block sb, which the call itself made; the call began in w. -/
def Inv (w : World) (x : Nat → Nat) (sb k : Nat) (wr : World) : Prop := ∃ g, LL wr sb k (wdt x k) g x ∧ Below w.heap.size w wr ∧ w.heap.size ≤ sb ∧ w.heap.size ≤ g

theorem inv_push {w wr w' : World} {x : Nat → Nat} {sb k g g' : Nat} (hL : LL w' sb (k + 1) (max (wdt x k) (need (x k))) g' (fun i => if i < k then x i else x k)) (F : Fr sb g wr w') (hg : g' = g ∨ wr.heap.size ≤ g')
    (hb : Below w.heap.size w wr) (h1 : w.heap.size ≤ sb) (h2 : w.heap.size ≤ g) : Inv w x sb (k + 1) w' := by
  have := hb.size
  refine ⟨g', hL.congr fun i hi => ?_, hb.trans (F.below h1 h2 hb.size), h1, by omega⟩
  by_cases h : i < k
  · rw [if_pos h]
  · rw [if_neg h]; obtain rfl : i = k := by omega
    rfl

/-- The list's length in bytes and its width. -/
theorem LL.shape' {w : World} {sb n wd g : Nat} {xs : Nat → Nat} (h : LL w sb n wd g xs) (hn : 0 < n) : ∃ cap, w.cell? ⟨sb, 0, none⟩ = some (.slice (some ⟨g, 0, none⟩) (n * wd + 3) cap) ∧ w.cell? ⟨sb, 2, none⟩ = some (.int .i64 wd) ∧ wd ≤ 4 := by
  rcases h with ⟨_, h, _⟩ | ⟨cap, bs, h1, _⟩
  · omega
  · exact ⟨cap, h1.hdr.c0, h1.hdr.c2, h1.w4⟩

theorem w2_eq (x : Nat → Nat) (n p : Nat) : max (wdt x n) (need p) = need (max (mx x n) p) := by
  cases n with
  | zero => simp [wdt, mx]
  | succ n => rw [wdt_eq, need_max]

set_option maxHeartbeats 3200000 in
theorem walk4 (a0 : Option Addr) (len0 cap0 p : Nat) (x : Nat → Nat) (w : World) (hx : In32 w a0 len0 x) (hp : p < 4294967296) (hlen : len0 ≤ 65536) :
    Calls Try.prog 4 #[.slice a0 len0 cap0, .int .u32 p] w fun e w' => e = .returned (.bool true) ∧ Below w.heap.size w w' := by
  have k1 : ¬ (65536 : Int) < (len0 : Int) := by omega
  have k1b : decide ((65536 : Int) < (len0 : Int)) = false := by simp; omega
  go_enter Try.func4, Try.ntmps4
  go_wp2_with (first | (go_at_call 12; refine (zz12_t a0 len0 cap0 p _ (by omega)).mono ?_; rintro e w' ⟨rfl, hq⟩; obtain rfl := hq.symm) | (go_at_call 8; refine (new_any _).mono ?_; rintro e w' ⟨rfl, hq⟩; obtain rfl := hq.symm))
  have hinv0 : Inv w x w.heap.size 0 (w.alloc (.cells #[.slice none 0 0, .int .i64 0, .int .i64 0, .int .u32 0] 51)) := ⟨w.heap.size, new_LL w _ x, (Below.refl _ _).alloc (Nat.le_refl _) _, Nat.le_refl _, Nat.le_refl _⟩
  go_loopw [7, 8] (fun m i wr => ∃ k : Nat, k ≤ len0 ∧ i = .int .i64 k ∧ m = .int .u32 (mx x k : Nat) ∧ Inv w x w.heap.size k wr) (fun _ i _ => len0 - (intOf i).toNat)
  case atStart => exact ⟨0, Nat.zero_le _, rfl, rfl, hinv0⟩
  case round =>
    obtain ⟨k, hk, rfl, rfl, g, hL, hb, h1, h2⟩ := hrel
    clear hinv0
    by_cases hk2 : k < len0
    · rcases hx with h0 | ⟨b, off, rfl, hc⟩
      · omega
      obtain ⟨hcell, hxk⟩ := hc k hk2
      have hcr := cell_later hb hcell
      have hpush := push9 w.heap.size k (wdt x k) g (x k) x wr hL hxk (by omega)
      by_cases hgt : mx x k < x k
      · have hgt' : ((mx x k : Nat) : Int) < ((x k : Nat) : Int) := by omega
        have hm : mx x (k + 1) = x k := by show max (mx x k) (x k) = x k; omega
        go_wp2_with (go_at_call 9; refine hpush.mono ?_; rintro e w1 ⟨rfl, g1, hL1, F1, hg1⟩; have hi1 := inv_push hL1 F1 hg1 hb h1 h2; have hcr1 : w1.cell? ⟨b, off + k, none⟩ = some (.int .u32 (x k : Nat)) := cell_later hi1.choose_spec.2.1 hcell)
        go_roundw
        case rel => exact ⟨k + 1, by omega, by go_num, by rw [hm], hi1⟩
        case measure => simp [intOf]; omega
      · have hgt' : ¬ ((mx x k : Nat) : Int) < ((x k : Nat) : Int) := by omega
        have hm : mx x (k + 1) = mx x k := by show max (mx x k) (x k) = mx x k; omega
        go_wp2_with (go_at_call 9; refine hpush.mono ?_; rintro e w1 ⟨rfl, g1, hL1, F1, hg1⟩; have hi1 := inv_push hL1 F1 hg1 hb h1 h2; have hcr1 : w1.cell? ⟨b, off + k, none⟩ = some (.int .u32 (x k : Nat)) := cell_later hi1.choose_spec.2.1 hcell)
        go_roundw
        case rel => exact ⟨k + 1, by omega, by go_num, by rw [hm], hi1⟩
        case measure => simp [intOf]; omega
    · have e : len0 = k := by omega
      subst e
      have hpush := push9 w.heap.size len0 (wdt x len0) g p x wr hL hp (by omega)
      obtain ⟨W2, hW2⟩ : ∃ W2, max (wdt x len0) (need p) = W2 := ⟨_, rfl⟩
      rw [hW2] at hpush
      have HW2 : Hid (need (max (mx x len0) p) = W2) := by rw [w2_eq] at hW2; exact hW2
      have hW4 : W2 ≤ 4 := by have := need_le (max (mx x len0) p); have := HW2.out; omega
      clear hW2
      obtain ⟨q2, hq2⟩ : ∃ q2, (len0 + 1) * W2 = q2 := ⟨_, rfl⟩
      have hq2' : ((len0 : Int) + 1) * (W2 : Int) = (q2 : Int) := by rw [← hq2, Int.natCast_mul, Int.natCast_add]; rfl
      have hq2b : q2 ≤ 300000 := by have := Nat.mul_le_mul (show len0 + 1 ≤ 65537 by omega) hW4; omega
      have HQ2 : Hid ((len0 + 1) * W2 = q2) := hq2
      clear hq2
      have hbel : ∀ w2, Fr w.heap.size g wr w2 → Below w.heap.size w w2 := fun w2 F => hb.trans (F.below h1 h2 hb.size)
      by_cases hz : len0 = 0
      · have hzb : ((len0 : Int) == 0) = true := by simp [hz]
        have c0 : wr.cell? ⟨w.heap.size, 0, none⟩ = some (.slice none 0 0) := by
          rcases hL with ⟨_, _, H⟩ | ⟨_, _, h, _⟩
          · exact H.c0
          · have := h.w1; rw [hz] at this; simp [wdt] at this
        have hl0 := len13 w.heap.size none 0 0 wr c0
        clear hz hL hx hk
        go_wp2_with (first | (go_at_call 13; refine hl0.mono ?_; rintro e w' ⟨rfl, hq⟩; obtain rfl := hq.symm))
        -- the tail
        by_cases hpm : mx x len0 < p
        · have hpm' : ((mx x len0 : Nat) : Int) < (p : Int) := by omega
          have hle : ∀ w', Calls Try.prog 14 #[.int .u32 p] w' fun e w'' => e = .returned (.int .i64 W2) ∧ w'' = w' := fun w' => by
            have h := least14 p w'
            rw [show need p = W2 by rw [← HW2.out]; congr 1; omega] at h
            exact h
          go_wp2_with (first | (go_at_call 9; refine hpush.mono ?_; rintro e w2 ⟨rfl, g2, hL2, F2, _⟩; obtain ⟨cap2, s0, s2, hw4⟩ := hL2.shape' (by omega); rw [HQ2.out] at s0; have hwid := width15 w.heap.size W2 w2 s2; have hlb := len13 w.heap.size _ _ _ w2 s0) | (go_at_call 14; refine (hle _).mono ?_; rintro e w' ⟨rfl, hq⟩; obtain rfl := hq.symm) | (go_at_call 15; refine hwid.mono ?_; rintro e w' ⟨rfl, hq⟩; obtain rfl := hq.symm) | (go_at_call 13; refine hlb.mono ?_; rintro e w' ⟨rfl, hq⟩; obtain rfl := hq.symm))
          go_ret
          exact ⟨rfl, hbel _ F2⟩
        · have hpm' : ¬ ((mx x len0 : Nat) : Int) < (p : Int) := by omega
          have hle : ∀ w', Calls Try.prog 14 #[.int .u32 (mx x len0 : Nat)] w' fun e w'' => e = .returned (.int .i64 W2) ∧ w'' = w' := fun w' => by
            have h := least14 (mx x len0) w'
            rw [show need (mx x len0) = W2 by rw [← HW2.out]; congr 1; omega] at h
            exact h
          go_wp2_with (first | (go_at_call 9; refine hpush.mono ?_; rintro e w2 ⟨rfl, g2, hL2, F2, _⟩; obtain ⟨cap2, s0, s2, hw4⟩ := hL2.shape' (by omega); rw [HQ2.out] at s0; have hwid := width15 w.heap.size W2 w2 s2; have hlb := len13 w.heap.size _ _ _ w2 s0) | (go_at_call 14; refine (hle _).mono ?_; rintro e w' ⟨rfl, hq⟩; obtain rfl := hq.symm) | (go_at_call 15; refine hwid.mono ?_; rintro e w' ⟨rfl, hq⟩; obtain rfl := hq.symm) | (go_at_call 13; refine hlb.mono ?_; rintro e w' ⟨rfl, hq⟩; obtain rfl := hq.symm))
          go_ret
          exact ⟨rfl, hbel _ F2⟩
      · have hzb : ((len0 : Int) == 0) = false := by rw [beq_eq_false_iff_ne]; omega
        obtain ⟨W1, hW1⟩ : ∃ W1, wdt x len0 = W1 := ⟨_, rfl⟩
        have HW1 : Hid (need (mx x len0) = W1) := by
          obtain ⟨n', rfl⟩ := Nat.exists_eq_succ_of_ne_zero hz
          rw [← hW1]; exact (wdt_eq x n').symm
        rw [hW1] at hL
        obtain ⟨cap1, r0, r2, hw4⟩ := hL.shape' (by omega)
        obtain ⟨q1, hq1⟩ : ∃ q1, len0 * W1 = q1 := ⟨_, rfl⟩
        have hq1' : (len0 : Int) * (W1 : Int) = (q1 : Int) := by rw [← hq1, Int.natCast_mul]
        have hq1b : q1 ≤ 300000 := by have := Nat.mul_le_mul hlen hw4; omega
        rw [hq1] at r0
        have hle1 : ∀ w', Calls Try.prog 14 #[.int .u32 (mx x len0 : Nat)] w' fun e w'' => e = .returned (.int .i64 W1) ∧ w'' = w' := fun w' => by
          have h := least14 (mx x len0) w'
          rw [HW1.out] at h
          exact h
        have hwid1 := width15 w.heap.size W1 wr r2
        have hlb1 := len13 w.heap.size _ _ _ wr r0
        clear hz hL hx hk hW1 hq1
        go_wp2_with (first | (go_at_call 14; refine (hle1 _).mono ?_; rintro e w' ⟨rfl, hq⟩; obtain rfl := hq.symm) | (go_at_call 15; refine hwid1.mono ?_; rintro e w' ⟨rfl, hq⟩; obtain rfl := hq.symm) | (go_at_call 13; refine hlb1.mono ?_; rintro e w' ⟨rfl, hq⟩; obtain rfl := hq.symm))
        clear hq1' hwid1 hlb1 hle1
        -- the tail
        by_cases hpm : mx x len0 < p
        · have hpm' : ((mx x len0 : Nat) : Int) < (p : Int) := by omega
          have hle : ∀ w', Calls Try.prog 14 #[.int .u32 p] w' fun e w'' => e = .returned (.int .i64 W2) ∧ w'' = w' := fun w' => by
            have h := least14 p w'
            rw [show need p = W2 by rw [← HW2.out]; congr 1; omega] at h
            exact h
          go_wp2_with (first | (go_at_call 9; refine hpush.mono ?_; rintro e w2 ⟨rfl, g2, hL2, F2, _⟩; obtain ⟨cap2, s0, s2, hw4⟩ := hL2.shape' (by omega); rw [HQ2.out] at s0; have hwid := width15 w.heap.size W2 w2 s2; have hlb := len13 w.heap.size _ _ _ w2 s0) | (go_at_call 14; refine (hle _).mono ?_; rintro e w' ⟨rfl, hq⟩; obtain rfl := hq.symm) | (go_at_call 15; refine hwid.mono ?_; rintro e w' ⟨rfl, hq⟩; obtain rfl := hq.symm) | (go_at_call 13; refine hlb.mono ?_; rintro e w' ⟨rfl, hq⟩; obtain rfl := hq.symm))
          go_ret
          exact ⟨rfl, hbel _ F2⟩
        · have hpm' : ¬ ((mx x len0 : Nat) : Int) < (p : Int) := by omega
          have hle : ∀ w', Calls Try.prog 14 #[.int .u32 (mx x len0 : Nat)] w' fun e w'' => e = .returned (.int .i64 W2) ∧ w'' = w' := fun w' => by
            have h := least14 (mx x len0) w'
            rw [show need (mx x len0) = W2 by rw [← HW2.out]; congr 1; omega] at h
            exact h
          go_wp2_with (first | (go_at_call 9; refine hpush.mono ?_; rintro e w2 ⟨rfl, g2, hL2, F2, _⟩; obtain ⟨cap2, s0, s2, hw4⟩ := hL2.shape' (by omega); rw [HQ2.out] at s0; have hwid := width15 w.heap.size W2 w2 s2; have hlb := len13 w.heap.size _ _ _ w2 s0) | (go_at_call 14; refine (hle _).mono ?_; rintro e w' ⟨rfl, hq⟩; obtain rfl := hq.symm) | (go_at_call 15; refine hwid.mono ?_; rintro e w' ⟨rfl, hq⟩; obtain rfl := hq.symm) | (go_at_call 13; refine hlb.mono ?_; rintro e w' ⟨rfl, hq⟩; obtain rfl := hq.symm))
          go_ret
          exact ⟨rfl, hbel _ F2⟩
end Go.Proofs.Qxb6605736a
