import Derived.Test.Qxb6605736aZeros
namespace Go.Proofs.Qxb6605736a
open Go.RowKit Go.Deep

/-- The list at block sb, as the program's text keeps it once it has held an ID. -/
structure Lst (w : World) (sb n wd g cap : Nat) (bs : Nat → Nat) : Prop where
  hdr : Hdr w sb (.slice (some ⟨g, 0, none⟩) (n * wd + 3) cap) n wd (msk wd)
  row : Row w g cap bs
  ne : sb ≠ g
  w1 : 1 ≤ wd
  w4 : wd ≤ 4
  fits : n * wd + 3 ≤ cap
  small : cap ≤ maxLen

/-- The list at block sb holds the n numbers xs, each in wd bytes of block g; wd is 0 while it has never held an ID. -/
def LL (w : World) (sb n wd g : Nat) (xs : Nat → Nat) : Prop :=
  (wd = 0 ∧ n = 0 ∧ Hdr w sb (.slice none 0 0) 0 0 0) ∨ ∃ cap bs, Lst w sb n wd g cap bs ∧ ∀ i, i < n → leV bs (i * wd) wd = xs i

theorem need_pos (p : Nat) : 1 ≤ need p := by unfold need; repeat' split
                                              all_goals omega
theorem need_le (p : Nat) : need p ≤ 4 := by unfold need; repeat' split
                                             all_goals omega
theorem msk1 : msk 1 = 255 := by decide
theorem msk2 : msk 2 = 65535 := by decide
theorem msk3 : msk 3 = 16777215 := by decide
theorem msk4 : msk 4 = 4294967295 := by decide
theorem need_msk (p wd : Nat) (hp : p < 4294967296) (h1 : 1 ≤ wd) (h4 : wd ≤ 4) : need p ≤ wd ↔ p ≤ msk wd := by
  unfold need
  rcases wd_cases h1 h4 with rfl | rfl | rfl | rfl
  · rw [msk1]; repeat' split
    all_goals omega
  · rw [msk2]; repeat' split
    all_goals omega
  · rw [msk3]; repeat' split
    all_goals omega
  · rw [msk4]; repeat' split
    all_goals omega

theorem wrapT (W : Nat) (h1 : 1 ≤ W) (h4 : W ≤ 4) : IntKind.u64.wrap ((2 : Int) ^ (8 * W)) = ((2 ^ (8 * W) : Nat) : Int) := by
  rcases wd_cases h1 h4 with rfl | rfl | rfl | rfl <;> decide
theorem wrapM (W : Nat) (h1 : 1 ≤ W) (h4 : W ≤ 4) : IntKind.u64.wrap (((2 ^ (8 * W) : Nat) : Int) - 1) % 4294967296 = (msk W : Nat) := by
  rcases wd_cases h1 h4 with rfl | rfl | rfl | rfl <;> decide

/-- 'fit', whole. -/
theorem fit_all (sb n wd g0 p : Nat) (xs : Nat → Nat) (w : World) (h : LL w sb n wd g0 xs) (hp : p < 4294967296) (hn : n ≤ 200000) :
    Calls Try.prog 29 #[.pointer (some ⟨sb, 0, none⟩), .int .u32 p] w fun e w' => e = .returned (.tuple #[]) ∧
      ∃ g cap bs, Lst w' sb n (max wd (need p)) g cap bs ∧ p ≤ msk (max wd (need p)) ∧ (∀ i, i < n → leV bs (i * (max wd (need p))) (max wd (need p)) = xs i) ∧ Fr sb g0 w w' ∧ (g = g0 ∨ w.heap.size ≤ g) := by
  have n1 := need_pos p
  have n4 := need_le p
  have hr3 : Lib.bitLen p ≤ 32 := Lib.bitLen_le p 32 (by omega) (by omega)
  have hmax : max 1 (((Lib.bitLen p : Int) + 7) / 8) = (need p : Int) := by have := width_of_len p hp; omega
  have hnW : n * need p ≤ 800000 := by
    have := Nat.mul_le_mul hn n4; omega
  have widen : ∀ (wd m : Nat) (a0 : Option Addr) (l0 k0 : Nat) (bs : Nat → Nat), Hdr w sb (.slice a0 l0 k0) n wd m → (0 < wd → (bits .andNot .u32 (p : Int) (m : Int) == 0) = false) →
      Old w sb n wd m a0 l0 k0 bs (need p) → max wd (need p) = need p → (∀ i, i < n → leV bs (i * wd) wd = xs i) →
      Calls Try.prog 29 #[.pointer (some ⟨sb, 0, none⟩), .int .u32 p] w fun e w' => e = .returned (.tuple #[]) ∧
      ∃ g cap bs, Lst w' sb n (max wd (need p)) g cap bs ∧ p ≤ msk (max wd (need p)) ∧ (∀ i, i < n → leV bs (i * (max wd (need p))) (max wd (need p)) = xs i) ∧ Fr sb g0 w w' ∧ (g = g0 ∨ w.heap.size ≤ g) := by
    intro wd m a0 l0 k0 bs H hgo hold hw hxs
    have hlt := H.lt
    rw [hw]
    have hc := fit_widen sb wd m n p (Lib.bitLen p) (need p) (n * need p) (n * need p + 3) (2 ^ (8 * need p)) a0 l0 k0 bs w H hp hgo rfl hr3 hmax n1 n4 (wrapT _ n1 n4) (wrapM _ n1 n4) (by rw [Int.natCast_mul]) (by omega) (by omega) hold
    refine hc.mono ?_
    rintro e w' ⟨rfl, bs', H', R', _, F', hcont⟩
    refine ⟨rfl, w.heap.size + 1, n * need p + 3, bs', ⟨H', R', by omega, n1, n4, Nat.le_refl _, by unfold maxLen; omega⟩, (need_msk p _ hp n1 n4).1 (Nat.le_refl _), fun i hi => (hcont i hi).trans (hxs i hi), ?_, .inr (by omega)⟩
    exact (Fr.refl sb g0 w).trans ⟨F'.os, F'.tape, F'.output, F'.size, fun k hk h1 _ => F'.block k hk h1 h1, F'.rest⟩ (.inl rfl)
  rcases h with ⟨rfl, rfl, H⟩ | ⟨cap, bs, hL, hxs⟩
  · exact widen 0 0 none 0 0 (fun _ => 0) H (fun h => by omega) (.inl rfl) (by omega) (fun i hi => by omega)
  · obtain ⟨H, R, hne, h1, h4, hf, hs⟩ := hL
    have hlt := H.lt
    have hand : bits .andNot .u32 (p : Int) (msk wd : Nat) = ((p / 2 ^ (8 * wd) * 2 ^ (8 * wd) : Nat) : Int) := andNot_mask (8 * wd) p (by omega) hp
    have hpos : 0 < 2 ^ (8 * wd) := Nat.two_pow_pos _
    by_cases hle : p ≤ msk wd
    · have hm : max wd (need p) = wd := by have := (need_msk p wd hp h1 h4).2 hle; omega
      rw [hm]
      have hz : bits .andNot .u32 (p : Int) (msk wd : Nat) = 0 := by
        rw [hand, Nat.div_eq_of_lt (by unfold msk at hle; omega)]; simp
      refine (fit_stay sb wd (msk wd) n p _ w H h1 hz).mono ?_
      rintro e w' ⟨rfl, rfl⟩
      exact ⟨rfl, g0, cap, bs, ⟨H, R, hne, h1, h4, hf, hs⟩, hle, hxs, Fr.refl _ _ _, .inl rfl⟩
    · have hm : ¬ need p ≤ wd := fun h => hle ((need_msk p wd hp h1 h4).1 h)
      refine widen wd (msk wd) (some ⟨g0, 0, none⟩) (n * wd + 3) cap bs H (fun _ => ?_) (.inr ⟨g0, rfl, R, fun e => hne e.symm, h1, by omega, rfl, rfl, hf, hs⟩) (by omega) hxs
      rw [hand]
      have : 1 ≤ p / 2 ^ (8 * wd) := (Nat.le_div_iff_mul_le hpos).2 (by unfold msk at hle; omega)
      have h2 : 2 ^ (8 * wd) ≤ p / 2 ^ (8 * wd) * 2 ^ (8 * wd) := Nat.le_mul_of_pos_left _ (by omega)
      rw [beq_eq_false_iff_ne]
      omega
end Go.Proofs.Qxb6605736a
