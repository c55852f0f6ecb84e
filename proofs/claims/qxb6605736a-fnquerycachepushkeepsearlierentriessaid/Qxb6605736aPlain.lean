import Derived.Test.Qxb6605736aState
namespace Go.Proofs.Qxb6605736a

theorem leV_congr (b1 b2 : Nat → Nat) (o : Nat) : ∀ k, (∀ i, i < k → b1 (o + i) = b2 (o + i)) → leV b1 o k = leV b2 o k
  | 0, _ => rfl
  | k + 1, h => by
    rw [leV, leV, leV_congr b1 b2 o k (fun i hi => h i (by omega)), h k (by omega)]

theorem leV_lt (bs : Nat → Nat) (o : Nat) : ∀ k, (∀ i, i < k → bs (o + i) < 256) → leV bs o k < 256 ^ k
  | 0, _ => by simp [leV]
  | k + 1, h => by
    have h1 := leV_lt bs o k (fun i hi => h i (by omega))
    have h2 := h k (by omega)
    rw [leV, Nat.pow_succ]
    have h3 : bs (o + k) * 256 ^ k ≤ 255 * 256 ^ k := Nat.mul_le_mul_right _ (by omega)
    omega

theorem pow256 (k : Nat) : 2 ^ (8 * k) = 256 ^ k := by rw [Nat.pow_mul]

theorem leV_setB_same (bs : Nat → Nat) (lo wd x : Nat) (h1 : 1 ≤ wd) (h2 : wd ≤ 4) (hx : x ≤ msk wd) : leV (setB bs lo wd x) lo wd = x := by
  unfold msk at hx
  have e1 : lo + 1 - lo = 1 := by omega
  have e2 : lo + 2 - lo = 2 := by omega
  have e3 : lo + 3 - lo = 3 := by omega
  rcases wd_cases h1 h2 with rfl | rfl | rfl | rfl <;> simp only [Nat.reduceMul, Nat.reducePow] at hx <;> simp only [leV, setB, Nat.add_zero, Nat.sub_self, e1, e2, e3] <;> repeat rw [if_pos (by omega)]
  all_goals omega

theorem leV_setB_far (bs : Nat → Nat) (lo wd x o k : Nat) (h : o + k ≤ lo ∨ lo + wd ≤ o) : leV (setB bs lo wd x) o k = leV bs o k := by
  refine leV_congr _ _ _ _ fun i hi => ?_
  unfold setB
  rw [if_neg (by omega)]

theorem mul_far (i k wd : Nat) (h : i < k) : i * wd + wd ≤ k * wd := by
  have := Nat.mul_le_mul_right wd (show i + 1 ≤ k from h)
  rw [Nat.add_mul] at this; omega
end Go.Proofs.Qxb6605736a
