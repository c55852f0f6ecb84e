import Derived.Test.Qxb6605986aBase
namespace Go.Proofs.Qxb6605986a
open Go.RowKit Go.Deep

theorem zz9_t (s : Int) (a : Option Addr) (len cap : Nat) (i c : Int) (w : World) (h : len ≤ 1048576) :
    Calls Try.prog 9 #[.int .i64 s, .slice a len cap, .int .i64 i, .int .i64 c] w fun e w' => e = .returned (.bool true) ∧ w' = w := by
  have h1 : ¬ (1048576 : Int) < (len : Int) := by omega
  go_enter Try.func9, Try.ntmps9
  go_wp2
  go_ret
  exact ⟨rfl, rfl⟩
theorem zz9_f (s : Int) (a : Option Addr) (len cap : Nat) (i c : Int) (w : World) (h : ¬ len ≤ 1048576) :
    Calls Try.prog 9 #[.int .i64 s, .slice a len cap, .int .i64 i, .int .i64 c] w fun e w' => e = .returned (.bool false) ∧ w' = w := by
  have h1 : (1048576 : Int) < (len : Int) := by omega
  go_enter Try.func9, Try.ntmps9
  go_wp2
  go_ret
  exact ⟨rfl, rfl⟩

/-- A shifted window's line starts where the line did, shifted. -/
theorem ls_shift (s c : Int) (y : Nat → Int) (i : Nat) : ls (wrap64 (s + c)) (fun j => wrap64 (y j + c)) i = wrap64 (ls s y i + c) := by
  unfold ls; split <;> rfl
/-- Where it starts is the window's start or an earlier end. -/
theorem ls_bound (s : Int) (y : Nat → Int) (i : Nat) (h : ls s y i ≠ s) : ∃ j, j < i ∧ y j = ls s y i := by
  cases i with
  | zero => exact absurd rfl h
  | succ k => exact ⟨k, Nat.lt_succ_self k, by simp [ls]⟩

set_option maxHeartbeats 3200000 in
theorem walk4 (s : Int) (a0 : Option Addr) (len cap i : Nat) (c : Int) (y : Nat → Int) (w : World) (hin : In64 w a0 len y) (hlen : len ≤ 65536) (hi : i ≤ len) :
    Calls Try.prog 4 #[.int .i64 s, .slice a0 len cap, .int .i64 i, .int .i64 c] w fun e w' => e = .returned (.bool true) ∧ Below w.heap.size w w' := by
  have k1 : ¬ (65536 : Int) < (len : Int) := by omega
  have k1b : decide ((65536 : Int) < (len : Int)) = false := by simp; omega
  have k2b : decide ((i : Int) < 0) = false := by simp
  have k3b : decide ((len : Int) < (i : Int)) = false := by simp; omega
  have hcl := clone7 a0 len cap y w hin (by omega)
  have hmk : ∀ w', (Instr.makeSlice 22 (.int .i64 len) (.int .i64 len)).run Try.prog w' = .ok (.slice (some ⟨w'.heap.size, 0, none⟩) len len) (w'.alloc (intObj len)) :=
    fun w' => run_make_row' (P := Try.prog) 22 3 (.int .i64 0) 8 Try.underlying22 Try.info3 rfl .i64 .i64 len (by omega) (by omega) w'
  go_enter Try.func4, Try.ntmps4
  go_wp2_with (first | (go_at_call 9; refine (zz9_t s a0 len cap i c _ (by omega)).mono ?_; rintro e w' ⟨rfl, hq⟩; obtain rfl := hq.symm) | (go_at_call 7; refine hcl.mono ?_; rintro e w1 ⟨a, c1, rfl, h1, hb1⟩; have hst := start8 s a len c1 i y w1 h1 hi (by omega)) | (go_at_call 8; refine hst.mono ?_; rintro e w2 ⟨rfl, hb2⟩))
  have h2 := h1.later hb2
  have hbw : Below w.heap.size w w2 := hb1.trans (hb2.mono hb1.size)
  have hA0 := arr_made w2 len (fun j => wrap64 (y j + c))
  have hb0 : Below w2.heap.size w2 (w2.alloc (intObj len)) := (Below.refl _ _).alloc (Nat.le_refl _) _
  clear hcl hst h1 hb1 hb2 hin
  go_loopw [11] (fun i wr => ∃ k : Nat, k ≤ len ∧ i = .int .i64 k ∧ Arr wr w2.heap.size len (fun j => if j < k then wrap64 (y j + c) else 0) ∧ Below w2.heap.size w2 wr) (fun i _ => len - (intOf i).toNat)
  case atStart => exact ⟨0, Nat.zero_le _, rfl, hA0, hb0⟩
  case round =>
    obtain ⟨k, hk, rfl, hA, hb⟩ := hrel
    clear hA0 hb0 hmk
    by_cases hk2 : k < len
    · rcases h2 with h0 | ⟨b, off, rfl, hc⟩
      · omega
      have hcr := cell_later hb (hc k hk2)
      obtain ⟨q1, q2⟩ := hA k hk2
      have hk3 : (k : Int) < (len : Int) := by omega
      go_wp2
      go_roundw
      case rel => exact ⟨k + 1, by omega, by go_num, arr_set (y := fun j => wrap64 (y j + c)) hA, hb.setCell (Nat.le_refl _) _⟩
      case measure => simp [intOf]; omega
    · have e : len = k := by omega
      subst e
      have hst := start8 (wrap64 (s + c)) (some ⟨w2.heap.size, 0, none⟩) len len i (fun j => wrap64 (y j + c)) wr hA.in64 hi (by omega)
      rw [ls_shift] at hst
      have hls := ls_bound s y i
      have h3 := h2.later hb
      have hbw3 : Below w.heap.size w wr := hbw.trans (hb.mono hbw.size)
      generalize ls s y i = S at hst hls ⊢
      by_cases hS : S = s
      · have kS : (S == s) = true := by simp [hS]
        have HS : Hid (S = s) := hS
        clear hS hls
        go_wp2_with (go_at_call 8; refine hst.mono ?_; rintro e w3 ⟨rfl, hb3⟩)
        go_ret
        exact ⟨rfl, hbw3.trans (hb3.mono hbw3.size)⟩
      · have kS : (S == s) = false := by simp [hS]
        obtain ⟨jj, hj1, hj2⟩ := hls hS
        have HJ : Hid (y jj = S) := hj2
        clear hS hls hj2
        go_wp2_with (go_at_call 8; refine hst.mono ?_; rintro e w3 ⟨rfl, hb3⟩)
        have h4 := h3.later hb3
        have hbw4 := hbw3.trans (hb3.mono hbw3.size)
        clear hst h2 h3 hA hb hb3 hbw hbw3
        go_loop [13] (fun i' => ∃ k : Nat, k ≤ i ∧ i' = .int .i64 k ∧ ∀ j, j < k → y j ≠ S) (fun i' => i - (intOf i').toNat)
        case atStart => exact ⟨0, Nat.zero_le _, rfl, fun j hj => by omega⟩
        case round =>
          obtain ⟨k, hk, rfl, hno⟩ := hrel
          have HN : Hid (∀ j, j < k → y j ≠ S) := hno
          clear hno
          by_cases hk2 : k < i
          · rcases h4 with h0 | ⟨b, off, rfl, hc⟩
            · omega
            have hcr := hc k (by omega)
            have hk3 : (k : Int) < (i : Int) := by omega
            have hk4 : (k : Int) < (len : Int) := by omega
            by_cases hy : y k = S
            · have ky : (y k == S) = true := by simp [hy]
              clear hy hc
              go_wp2
              go_ret
              exact ⟨rfl, hbw4⟩
            · have ky : (y k == S) = false := by simp [hy]
              have HY : Hid (y k ≠ S) := hy
              clear hy hc
              go_wp2
              go_round
              case rel => exact ⟨k + 1, by omega, by go_num, fun j hj => by
                by_cases e : j = k
                · subst e; exact HY.out
                · exact HN.out j (by omega)⟩
              case measure => simp [intOf]; omega
          · exact absurd HJ.out (HN.out jj (by omega))
end Go.Proofs.Qxb6605986a
