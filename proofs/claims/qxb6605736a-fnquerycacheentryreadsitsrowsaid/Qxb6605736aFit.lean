import Derived.Test.Qxb6605736aHdr
import Derived.Test.Qxb6605736aLen
import Derived.Test.Qxb6605736aPlain
import Derived.Deep.OwnRows
import Derived.LoopTactic
namespace Go.Proofs.Qxb6605736a
open Go.RowKit Go.Deep

theorem Try.info5 : (Try.prog.info? 5).map (fun i => (i.zero, i.size, i.bytes)) = some (some (.int .u8 0), 1, 1) := by kernel_rfl

set_option maxHeartbeats 1600000 in
/-- 'fit' where nothing is to be done. -/
theorem fit_stay (sb wd m n p : Nat) (v : Value) (w : World) (H : Hdr w sb v n wd m) (h1 : 1 ≤ wd) (hz : bits .andNot .u32 (p : Int) (m : Int) = 0) :
    Calls Try.prog 29 #[.pointer (some ⟨sb, 0, none⟩), .int .u32 p] w fun e w' => e = .returned (.tuple #[]) ∧ w' = w := by
  have c2 := H.c2
  have c3 := H.c3
  have k1 : 0 < wd := by omega
  clear H
  go_enter Try.func29, Try.ntmps29
  go_wp2
  exact bodyPost_ret (v := .tuple #[]) (by simp [results, Try.results29]) rfl ⟨rfl, rfl⟩

/-- What is known of the bytes that 'fit' copies. -/
def Old (w : World) (sb n wd m : Nat) (a0 : Option Addr) (l0 k0 : Nat) (bs : Nat → Nat) (W : Nat) : Prop :=
  n = 0 ∨ ∃ g, a0 = some ⟨g, 0, none⟩ ∧ Row w g k0 bs ∧ g ≠ sb ∧ 1 ≤ wd ∧ wd ≤ W ∧ m = msk wd ∧ l0 = n * wd + 3 ∧ l0 ≤ k0 ∧ k0 ≤ maxLen

/-- What holds at the head of a round of 'fit'. -/
def Rel (w : World) (sb n wd m : Nat) (a0 : Option Addr) (l0 k0 : Nat) (bs : Nat → Nat) (W L k : Nat) (wr : World) : Prop :=
  ∃ bs', Hdr wr sb (.slice (some ⟨w.heap.size + 1, 0, none⟩) L L) n W (msk W) ∧ Row wr (w.heap.size + 1) L bs' ∧ Hdr wr w.heap.size (.slice a0 l0 k0) n wd m ∧ Fr sb sb w wr ∧
    (∀ j, j < k → leV bs' (j * W) W = leV bs (j * wd) wd)

theorem rel_start {w wA : World} {sb n wd m : Nat} {a0 : Option Addr} {l0 k0 : Nat} (bs : Nat → Nat) {W L : Nat} (H : Hdr w sb (.slice a0 l0 k0) n wd m)
    (hA : ((w.setCell ⟨sb, 2, none⟩ (.int .i64 W)).setCell ⟨sb, 3, none⟩ (.int .u32 (msk W))).alloc (.cells #[.slice a0 l0 k0, .int .i64 n, .int .i64 wd, .int .u32 m] 51) = wA) :
    Rel w sb n wd m a0 l0 k0 bs W L 0 ((wA.setCell ⟨sb, 0, none⟩ (.slice (some ⟨w.heap.size + 1, 0, none⟩) L L)).alloc (.cells (madeCells #[.int .u8 0] L) 5)).drew := by
  have hlt := H.lt
  have HA : Hdr wA sb (.slice a0 l0 k0) n W (msk W) := by rw [← hA]; exact ((H.set2 W).set3 (msk W)).alloc _
  have HO : Hdr wA w.heap.size (.slice a0 l0 k0) n wd m := by
    rw [← hA]
    have h := Hdr.made ((w.setCell ⟨sb, 2, none⟩ (.int .i64 W)).setCell ⟨sb, 3, none⟩ (.int .u32 (msk W))) (.slice a0 l0 k0) n wd m 51
    simpa using h
  have FA : Fr sb sb w wA := by
    rw [← hA]
    exact ((Fr.set _ (by decide)).trans (Fr.set (g := sb) _ (by decide)) (.inl rfl)).trans (Fr.alloc (g := sb) (by simpa using hlt) _) (.inl rfl)
  have hs : wA.heap.size = w.heap.size + 1 := by rw [← hA]; simp
  refine ⟨fun _ => 0, ((HA.set0 _).alloc _).drew, ?_, ?_, ?_, fun j hj => by omega⟩
  · have h := Row.made (wA.setCell ⟨sb, 0, none⟩ (.slice (some ⟨w.heap.size + 1, 0, none⟩) L L)) L
    rw [World.size_setCell, hs] at h
    exact h.drew
  · exact ((HO.far _ (by show w.heap.size ≠ sb; omega)).alloc _).drew
  · exact (FA.trans ((Fr.set (g := sb) _ (by decide)).trans (Fr.alloc (g := sb) (by rw [World.size_setCell]; omega) _) (.inl rfl)) (.inl rfl)).drew

theorem rel_step {w wr w1 w2 : World} {sb n wd m : Nat} {a0 : Option Addr} {l0 k0 : Nat} {bs bs' : Nat → Nat} {W L k : Nat}
    (H2 : Hdr w2 sb (.slice (some ⟨w.heap.size + 1, 0, none⟩) L L) n W (msk W)) (R2 : Row w2 (w.heap.size + 1) L (setB bs' (k * W) W (leV bs (k * wd) wd)))
    (F2 : Fr sb (w.heap.size + 1) w1 w2) (HO : Hdr wr w.heap.size (.slice a0 l0 k0) n wd m) (FL : Fr sb sb w wr) (hb : Below wr.heap.size wr w1) (hlt : sb < w.heap.size)
    (hc : ∀ j, j < k → leV bs' (j * W) W = leV bs (j * wd) wd) (hx : leV bs (k * wd) wd ≤ msk W) (h1 : 1 ≤ W) (h4 : W ≤ 4) :
    Rel w sb n wd m a0 l0 k0 bs W L (k + 1) w2 := by
  have hw := FL.size
  refine ⟨_, H2, R2, (HO.later hb).of_fr F2 (by omega) (by omega), (FL.trans (Fr.of_below hb (by omega)) (.inl rfl)).trans F2 (.inr (by omega)), fun j hj => ?_⟩
  by_cases e : j = k
  · subst e; exact leV_setB_same _ _ _ _ h1 h4 hx
  · have := mul_far j k W (by omega)
    rw [leV_setB_far _ _ _ _ _ _ (.inl (by omega))]
    exact hc j (by omega)

theorem fit_val {w : World} {g k0 : Nat} {bs : Nat → Nat} (R : Row w g k0 bs) {k wd W : Nat} (hw : wd ≤ W) (hk : k * wd + wd ≤ k0) : leV bs (k * wd) wd ≤ msk W := by
  have h := leV_lt bs (k * wd) wd (fun i hi => (R (k * wd + i) (by omega)).2.2)
  have h2 : 256 ^ wd ≤ 256 ^ W := Nat.pow_le_pow_right (by omega) hw
  unfold msk
  rw [pow256]
  omega

set_option maxHeartbeats 3200000 in
theorem fit_widen (sb wd m n p r W q L T : Nat) (a0 : Option Addr) (l0 k0 : Nat) (bs : Nat → Nat) (w : World) (H : Hdr w sb (.slice a0 l0 k0) n wd m) (hp : p < 4294967296)
    (hgo : 0 < wd → (bits .andNot .u32 (p : Int) (m : Int) == 0) = false)
    (hr : Hid (Lib.bitLen p = r)) (hr3 : r ≤ 32) (hmax : max 1 (((r : Int) + 7) / 8) = (W : Int)) (hW1 : 1 ≤ W) (hW4 : W ≤ 4)
    (hT : IntKind.u64.wrap ((2 : Int) ^ (8 * W)) = (T : Int)) (hM : IntKind.u64.wrap ((T : Int) - 1) % 4294967296 = (msk W : Nat))
    (hq : (n : Int) * (W : Int) = (q : Int)) (hL : (q : Int) + 3 = (L : Int)) (hLb : L ≤ 1000000) (hold : Old w sb n wd m a0 l0 k0 bs W) :
    Calls Try.prog 29 #[.pointer (some ⟨sb, 0, none⟩), .int .u32 p] w fun e w' => e = .returned (.tuple #[]) ∧ Rel w sb n wd m a0 l0 k0 bs W L n w' := by
  have hlt := H.lt
  obtain ⟨c0, c1, c2, c3, f⟩ := id H
  have d0 := fun o => cell_al (W := w) o c0
  have d1 := fun o => cell_al (W := w) o c1
  have d2 := fun o => cell_al (W := w) o c2
  have d3 := fun o => cell_al (W := w) o c3
  have df : ∀ o j, (w.alloc o).frozen? ⟨sb, j, none⟩ = false := fun o j => (World.frozen?_alloc_old w o ⟨sb, j, none⟩ (Nat.ne_of_lt hlt)).trans (f j)
  have k5 : IntKind.i64.wrap (q : Int) = (q : Int) := by rw [IntKind.wrap_i64]; omega
  have k6 : IntKind.i64.wrap (L : Int) = (L : Int) := by rw [IntKind.wrap_i64]; omega
  have hmk := run_make_row' (P := Try.prog) 49 5 (.int .u8 0) 1 Try.underlying49 Try.info5 rfl .i64 .i64 L (by omega) (by omega)
  have hlen := len_any p
  rw [Int.toNat_natCast, hr.out] at hlen
  have hnW : n * W = q := by have h := hq; rw [← Int.natCast_mul] at h; exact Int.ofNat.inj h
  have hn : n ≤ 1000000 := by have := Nat.le_mul_of_pos_right n (show 0 < W by omega); omega
  have HN : Hid (n * W = q) := hnW
  clear hnW
  by_cases hw : 0 < wd
  · have hgo' := hgo hw
    clear hgo
    go_enter Try.func29, Try.ntmps29
    go_wp2_with (first | (go_at_call 34; refine (hlen _ (by omega) (by omega)).mono ?_; rintro e w' ⟨rfl, rfl⟩))
    generalize hA : ((w.setCell ⟨sb, 2, none⟩ (.int .i64 W)).setCell ⟨sb, 3, none⟩ (.int .u32 (msk W : Nat))).alloc (.cells #[.slice a0 l0 k0, .int .i64 n, .int .i64 wd, .int .u32 m] 51) = wA
    have hrel0 := rel_start (L := L) bs H hA
    have HA : Hdr wA sb (.slice a0 l0 k0) n W (msk W) := by rw [← hA]; exact ((H.set2 W).set3 (msk W)).alloc _
    have HAs : wA.heap.size = w.heap.size + 1 := by rw [← hA]; simp
    have B1 := fun x o => ((HA.set0 x).alloc o).c1
    have B2 := fun x o => ((HA.set0 x).alloc o).c2
    obtain ⟨A0, A1, A2, A3, Af⟩ := HA
    clear d0 d1 d2 d3 df hA c0 c1 c2 c3 f
    go_region_held3 (fun w' => w'.cell? ⟨sb, 1, none⟩ = some (.int .i64 n) ∧ w'.cell? ⟨sb, 2, none⟩ = some (.int .i64 W)) (first | go_keep | exact ⟨B1 _ _, B2 _ _⟩) (fail)
    go_wp2
    generalize hB : ((wA.setCell ⟨sb, 0, none⟩ (.slice (some ⟨w.heap.size + 1, 0, none⟩) L L)).alloc (.cells (madeCells #[.int .u8 0] L) 5)).drew = wB at hrel0 ⊢
    clear hB B1 B2 A0 A1 A2 A3 Af HAs
    go_loopw [60] (fun i wr => ∃ k : Nat, k ≤ n ∧ i = .int .i64 k ∧ Rel w sb n wd m a0 l0 k0 bs W L k wr) (fun i _ => n - (intOf i).toNat)
    case atStart => exact ⟨0, Nat.zero_le _, rfl, hrel0⟩
    case round =>
      obtain ⟨k, hk, rfl, bs', HL, RL, HO, FL, hcont⟩ := hrel
      have HC : Hid (∀ j, j < k → leV bs' (j * W) W = leV bs (j * wd) wd) := hcont
      clear hcont
      by_cases hk2 : k < n
      · rcases hold with h0 | ⟨g, rfl, RO, hgs, h1, hwW, rfl, rfl, hl, hm⟩
        · omega
        have hwr := FL.size
        have RO' : Row wr g k0 bs := RO.of_fr FL hgs hgs
        have hlow : k * wd + 4 ≤ n * wd + 3 := by have := mul_far k n wd hk2; omega
        have hat := at_nice w.heap.size g k wd (n * wd + 3) k0 n bs wr HO RO' h1 (by omega) hlow hl hm
        have hx : leV bs (k * wd) wd ≤ msk W := fit_val RO hwW (by omega)
        have hL' : k * W + 4 ≤ L := by
          have := mul_far k n W hk2
          have e := HN.out
          omega
        have hLm : L ≤ maxLen := by unfold maxLen; omega
        clear hlow hmk hlen
        go_wp2_with (first | (go_at_call 26; refine hat.mono ?_; rintro e w1 ⟨rfl, hb1⟩; have HL1 := HL.later hb1; have RL1 := RL.later hb1) | (go_at_call 30; refine (set_nice sb (w.heap.size + 1) k W L L n (leV bs (k * wd) wd) bs' _ HL1 RL1 (by omega) hW1 hW4 hL' (Nat.le_refl _) hLm hx).mono ?_; rintro e w2 ⟨rfl, H2, R2, F2⟩))
        go_roundw
        case rel => exact ⟨k + 1, by omega, by go_num, rel_step H2 R2 F2 HO FL hb1 hlt HC.out hx hW1 hW4⟩
        case measure => simp [intOf]; omega
      · have e : k = n := by omega
        subst e
        go_wp2
        go_end0
        exact ⟨rfl, bs', HL, RL, HO, FL, HC.out⟩
  · clear hgo
    go_enter Try.func29, Try.ntmps29
    go_wp2_with (first | (go_at_call 34; refine (hlen _ (by omega) (by omega)).mono ?_; rintro e w' ⟨rfl, rfl⟩))
    generalize hA : ((w.setCell ⟨sb, 2, none⟩ (.int .i64 W)).setCell ⟨sb, 3, none⟩ (.int .u32 (msk W : Nat))).alloc (.cells #[.slice a0 l0 k0, .int .i64 n, .int .i64 wd, .int .u32 m] 51) = wA
    have hrel0 := rel_start (L := L) bs H hA
    have HA : Hdr wA sb (.slice a0 l0 k0) n W (msk W) := by rw [← hA]; exact ((H.set2 W).set3 (msk W)).alloc _
    have HAs : wA.heap.size = w.heap.size + 1 := by rw [← hA]; simp
    have B1 := fun x o => ((HA.set0 x).alloc o).c1
    have B2 := fun x o => ((HA.set0 x).alloc o).c2
    obtain ⟨A0, A1, A2, A3, Af⟩ := HA
    clear d0 d1 d2 d3 df hA c0 c1 c2 c3 f
    go_region_held3 (fun w' => w'.cell? ⟨sb, 1, none⟩ = some (.int .i64 n) ∧ w'.cell? ⟨sb, 2, none⟩ = some (.int .i64 W)) (first | go_keep | exact ⟨B1 _ _, B2 _ _⟩) (fail)
    go_wp2
    generalize hB : ((wA.setCell ⟨sb, 0, none⟩ (.slice (some ⟨w.heap.size + 1, 0, none⟩) L L)).alloc (.cells (madeCells #[.int .u8 0] L) 5)).drew = wB at hrel0 ⊢
    clear hB B1 B2 A0 A1 A2 A3 Af HAs
    go_loopw [60] (fun i wr => ∃ k : Nat, k ≤ n ∧ i = .int .i64 k ∧ Rel w sb n wd m a0 l0 k0 bs W L k wr) (fun i _ => n - (intOf i).toNat)
    case atStart => exact ⟨0, Nat.zero_le _, rfl, hrel0⟩
    case round =>
      obtain ⟨k, hk, rfl, bs', HL, RL, HO, FL, hcont⟩ := hrel
      have HC : Hid (∀ j, j < k → leV bs' (j * W) W = leV bs (j * wd) wd) := hcont
      clear hcont
      by_cases hk2 : k < n
      · rcases hold with h0 | ⟨g, rfl, RO, hgs, h1, hwW, rfl, rfl, hl, hm⟩
        · omega
        have hwr := FL.size
        have RO' : Row wr g k0 bs := RO.of_fr FL hgs hgs
        have hlow : k * wd + 4 ≤ n * wd + 3 := by have := mul_far k n wd hk2; omega
        have hat := at_nice w.heap.size g k wd (n * wd + 3) k0 n bs wr HO RO' h1 (by omega) hlow hl hm
        have hx : leV bs (k * wd) wd ≤ msk W := fit_val RO hwW (by omega)
        have hL' : k * W + 4 ≤ L := by
          have := mul_far k n W hk2
          have e := HN.out
          omega
        have hLm : L ≤ maxLen := by unfold maxLen; omega
        clear hlow hmk hlen
        go_wp2_with (first | (go_at_call 26; refine hat.mono ?_; rintro e w1 ⟨rfl, hb1⟩; have HL1 := HL.later hb1; have RL1 := RL.later hb1) | (go_at_call 30; refine (set_nice sb (w.heap.size + 1) k W L L n (leV bs (k * wd) wd) bs' _ HL1 RL1 (by omega) hW1 hW4 hL' (Nat.le_refl _) hLm hx).mono ?_; rintro e w2 ⟨rfl, H2, R2, F2⟩))
        go_roundw
        case rel => exact ⟨k + 1, by omega, by go_num, rel_step H2 R2 F2 HO FL hb1 hlt HC.out hx hW1 hW4⟩
        case measure => simp [intOf]; omega
      · have e : k = n := by omega
        subst e
        go_wp2
        go_end0
        exact ⟨rfl, bs', HL, RL, HO, FL, HC.out⟩
end Go.Proofs.Qxb6605736a
