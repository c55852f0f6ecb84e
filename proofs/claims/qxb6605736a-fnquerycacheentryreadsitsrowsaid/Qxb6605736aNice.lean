import Derived.Test.Qxb6605736aState
namespace Go.Proofs.Qxb6605736a
open Go.RowKit

theorem msk_lt {wd : Nat} (h1 : 1 ≤ wd) (h2 : wd ≤ 4) : msk wd < 4294967296 := by
  unfold msk; rcases wd_cases h1 h2 with rfl | rfl | rfl | rfl <;> decide

theorem at_nice (sb g i wd L cap n : Nat) (bs : Nat → Nat) (w : World) (H : Hdr w sb (.slice (some ⟨g, 0, none⟩) L cap) n wd (msk wd)) (R : Row w g cap bs)
    (h1 : 1 ≤ wd) (h2 : wd ≤ 4) (hL : i * wd + 4 ≤ L) (hc : L ≤ cap) (hm : cap ≤ maxLen) :
    Calls Try.prog 26 #[.pointer (some ⟨sb, 0, none⟩), .int .i64 i] w fun e w' => e = .returned (.int .u32 (leV bs (i * wd) wd : Nat)) ∧ Below w.heap.size w w' := by
  unfold maxLen at hm
  obtain ⟨c0, _, l0⟩ := R (i * wd) (by omega)
  obtain ⟨c1, _, l1⟩ := R (i * wd + 1) (by omega)
  obtain ⟨c2, _, l2⟩ := R (i * wd + 2) (by omega)
  obtain ⟨c3, _, l3⟩ := R (i * wd + 3) (by omega)
  have h := at_any sb g (i * wd) i wd L cap (msk wd : Nat) _ _ _ _ w (by rw [Int.natCast_mul]) hL hc (by omega) l0 l1 l2 l3 H.c0 H.c2 H.c3 c0 c1 c2 c3
  rw [at_val bs (i * wd) wd h1 h2 l0 l1 l2 l3] at h
  exact h

theorem set_nice (sb g i wd L cap n p : Nat) (bs : Nat → Nat) (w : World) (H : Hdr w sb (.slice (some ⟨g, 0, none⟩) L cap) n wd (msk wd)) (R : Row w g cap bs) (hne : sb ≠ g)
    (h1 : 1 ≤ wd) (h2 : wd ≤ 4) (hL : i * wd + 4 ≤ L) (hc : L ≤ cap) (hm : cap ≤ maxLen) (hp : p ≤ msk wd) :
    Calls Try.prog 30 #[.pointer (some ⟨sb, 0, none⟩), .int .i64 i, .int .u32 p] w fun e w' => e = .returned (.tuple #[]) ∧
      Hdr w' sb (.slice (some ⟨g, 0, none⟩) L cap) n wd (msk wd) ∧ Row w' g cap (setB bs (i * wd) wd p) ∧ Fr sb g w w' := by
  unfold maxLen at hm
  have hp' : p < 2 ^ (8 * wd) := by
    have := Nat.one_le_two_pow (n := 8 * wd)
    unfold msk at hp; omega
  have hlt : sb < w.heap.size := H.lt
  obtain ⟨c0, f0, l0⟩ := R (i * wd) (by omega)
  obtain ⟨c1, f1, l1⟩ := R (i * wd + 1) (by omega)
  obtain ⟨c2, f2, l2⟩ := R (i * wd + 2) (by omega)
  obtain ⟨c3, f3, l3⟩ := R (i * wd + 3) (by omega)
  have e : ((bs (i * wd) : Int) + bs (i * wd + 1) * 256 + bs (i * wd + 2) * 65536 + bs (i * wd + 3) * 16777216) = ((bs (i * wd) + bs (i * wd + 1) * 256 + bs (i * wd + 2) * 65536 + bs (i * wd + 3) * 16777216 : Nat) : Int) := by omega
  have hX : bs (i * wd) + bs (i * wd + 1) * 256 + bs (i * wd + 2) * 65536 + bs (i * wd + 3) * 16777216 < 4294967296 := by omega
  obtain ⟨V, hVe⟩ : ∃ V, V = (bs (i * wd) + bs (i * wd + 1) * 256 + bs (i * wd + 2) * 65536 + bs (i * wd + 3) * 16777216) / 2 ^ (8 * wd) * 2 ^ (8 * wd) + p := ⟨_, rfl⟩
  have hV4 : V < 4294967296 := by
    clear c0 c1 c2 c3 f0 f1 f2 f3 H R
    rcases wd_cases h1 h2 with rfl | rfl | rfl | rfl <;> simp only [Nat.reduceMul, Nat.reducePow] at hp' hVe <;> omega
  have h := set_raw sb g (i * wd) i wd L cap (msk wd : Nat) (p : Nat) (V : Nat) _ _ _ _ w (by rw [Int.natCast_mul]) hL hc (by omega)
    (by rw [e]; unfold msk; rw [set_val (8 * wd) _ p (by omega) hX hp', hVe]) (by omega) (by omega) l0 l1 l2 l3 H.c0 H.c2 H.c3 c0 c1 c2 c3 f0 f1 f2 f3 hne
  refine h.mono ?_
  rintro e w' ⟨rfl, w1, hb, rfl⟩
  have H1 := H.later hb
  have R1 := R.later hb
  refine ⟨rfl, ⟨cell_put4 _ _ _ _ _ hne H1.c0, cell_put4 _ _ _ _ _ hne H1.c1, cell_put4 _ _ _ _ _ hne H1.c2, cell_put4 _ _ _ _ _ hne H1.c3, fun j => by rw [frozen_put4]; exact H1.f j⟩, ?_, ?_⟩
  · intro j hj
    obtain ⟨cj, fj, lj⟩ := R1 j hj
    refine ⟨?_, by rw [frozen_put4]; exact fj, setB_lt _ _ _ _ _ lj⟩
    rw [cell_put4_at _ _ _ _ _ cj]
    exact congrArg some (set_bytes bs (i * wd) wd p j h1 h2 hp' V l0 l1 l2 l3 hVe)
  · exact (Fr.of_below hb hlt).trans (fr_put4 w1 _ _ hne H1.lt) (.inl rfl)
end Go.Proofs.Qxb6605736a
