import Derived.Test.Qxb6605986aDoorBase
namespace Go.Proofs.Qxb6605986aDoor
open Go.RowKit Go.Deep

theorem method_readAt (a : Addr) (w : World) : (method 201 25 (.pointer (some a)) "ReadAt").run Tryd.prog w = .ok (35, .pointer (some a)) w := by kernel_rfl
theorem err_nil (v : Value) (w : World) : (binOp .eql 29 (.iface 63 v) .nilIface).run Tryd.prog w = .ok (.bool false) w := by kernel_rfl

set_option maxHeartbeats 1600000 in
/-- readAt into no room. -/
theorem rd_none (mb : Nat) (ab : Option Addr) (lb cb : Nat) (aq : Option Addr) (cq : Nat) (o : Nat) (a0 : Addr) (w : World) (c0 : w.cell? ⟨mb, 0, none⟩ = some (.slice ab lb cb)) (hg : w.cell? ⟨0, 0, none⟩ = some (.iface 63 (.pointer (some a0))))
    (hbb : o < lb → ∃ gb, ab = some ⟨gb, 0, none⟩ ∧ cb = lb) :
    Calls Tryd.prog 15 #[.iface 25 (.pointer (some ⟨mb, 0, none⟩)), .slice aq 0 cq, .int .i64 o] w fun e w' => e = .returned .nilIface ∧ Below w.heap.size w w' := by
  have hm := method_readAt ⟨mb, 0, none⟩
  by_cases ho : o < lb
  · obtain ⟨gb, rfl, rfl⟩ := hbb ho
    have h := readAt_none mb gb cb aq cq o w c0 ho
    clear hbb
    go_enter Tryd.func15, Tryd.ntmps15
    go_wp2_with (go_at_call 35; refine h.mono ?_; rintro e w' ⟨rfl, hq⟩; obtain rfl := hq.symm)
    go_ret
    exact ⟨rfl, Below.refl _ _⟩
  · have h := readAt_end mb ab lb cb aq 0 cq o a0 w c0 hg (by omega)
    clear hbb
    go_enter Tryd.func15, Tryd.ntmps15
    go_wp2_with (go_at_call 35; refine h.mono ?_; rintro e w' ⟨rfl, m, rfl⟩)
    go_ret
    exact ⟨rfl, below_drewN (Below.refl _ _) _⟩

set_option maxHeartbeats 1600000 in
/-- readAt from behind the end into some room. -/
theorem rd_end (mb : Nat) (ab : Option Addr) (lb cb : Nat) (aq : Option Addr) (lq cq : Nat) (o : Nat) (a0 a1 : Addr) (w : World) (c0 : w.cell? ⟨mb, 0, none⟩ = some (.slice ab lb cb)) (hg : w.cell? ⟨0, 0, none⟩ = some (.iface 63 (.pointer (some a0)))) (hg1 : w.cell? ⟨1, 0, none⟩ = some (.iface 63 (.pointer (some a1)))) (ho : lb ≤ o) (hlq : 0 < lq) :
    Calls Tryd.prog 15 #[.iface 25 (.pointer (some ⟨mb, 0, none⟩)), .slice aq lq cq, .int .i64 o] w fun e w' => e = .returned (.iface 63 (.pointer (some a1))) ∧ Below w.heap.size w w' := by
  have hm := method_readAt ⟨mb, 0, none⟩
  have hn := err_nil (.pointer (some a0))
  have h := readAt_end mb ab lb cb aq lq cq o a0 w c0 hg ho
  have k1 : ((0 : Int) == (lq : Int)) = false := by rw [beq_eq_false_iff_ne]; omega
  go_enter Tryd.func15, Tryd.ntmps15
  go_wp2_with (first | (go_at_call 35; refine h.mono ?_; rintro e w' ⟨rfl, m, rfl⟩) | (go_at_call 16; refine (is_same a0 _).mono ?_; rintro e w' ⟨rfl, hq⟩; obtain rfl := hq.symm))
  go_ret
  exact ⟨rfl, below_drewN (Below.refl _ _) _⟩

set_option maxHeartbeats 1600000 in
/-- readAt that fills q. -/
theorem rd_full (mb gb gq lb lq o : Nat) (yb yq : Nat → Int) (w : World) (c0 : w.cell? ⟨mb, 0, none⟩ = some (.slice (some ⟨gb, 0, none⟩) lb lb)) (hb : Arr8 w gb lb yb) (hq : Arr8 w gq lq yq) (ho : o < lb) (hk : lq ≤ lb - o) :
    Calls Tryd.prog 15 #[.iface 25 (.pointer (some ⟨mb, 0, none⟩)), .slice (some ⟨gq, 0, none⟩) lq lq, .int .i64 o] w fun e w' => e = .returned .nilIface ∧ w' = w.setCells gq 0 (cpy yb o lq) := by
  have hm := method_readAt ⟨mb, 0, none⟩
  have h := readAt_full mb gb gq lb lq o yb yq w c0 hb hq ho hk
  clear hb hq
  go_enter Tryd.func15, Tryd.ntmps15
  go_wp2_with (go_at_call 35; refine h.mono ?_; rintro e w' ⟨rfl, hq⟩; obtain rfl := hq.symm)
  go_ret
  exact ⟨rfl, rfl⟩

set_option maxHeartbeats 1600000 in
/-- readAt that does not fill q. -/
theorem rd_part (mb gb gq lb lq o : Nat) (yb yq : Nat → Int) (a0 a1 : Addr) (w : World) (c0 : w.cell? ⟨mb, 0, none⟩ = some (.slice (some ⟨gb, 0, none⟩) lb lb)) (hg : w.cell? ⟨0, 0, none⟩ = some (.iface 63 (.pointer (some a0)))) (hg1 : w.cell? ⟨1, 0, none⟩ = some (.iface 63 (.pointer (some a1)))) (hg0 : 2 ≤ gq) (hb : Arr8 w gb lb yb) (hq : Arr8 w gq lq yq) (ho : o < lb) (hk : lb - o < lq) :
    Calls Tryd.prog 15 #[.iface 25 (.pointer (some ⟨mb, 0, none⟩)), .slice (some ⟨gq, 0, none⟩) lq lq, .int .i64 o] w fun e w' => e = .returned (.iface 63 (.pointer (some a1))) ∧ ∃ m, w' = (w.setCells gq 0 (cpy yb o (lb - o))).drewN m := by
  have hm := method_readAt ⟨mb, 0, none⟩
  have hn := err_nil (.pointer (some a0))
  have h := readAt_part mb gb gq lb lq o yb yq a0 w c0 hg (by omega) hb hq ho hk
  have hgr := grown_setCells gq (cpy yb o (lb - o)) 0 w
  have e0 := (World.cell?_of_block (hgr.block 0 (World.block_lt_of_cell? _ _ hg) (fun e => by have := Option.some.inj e; omega))).trans hg
  have e1 := (World.cell?_of_block (hgr.block 1 (World.block_lt_of_cell? _ _ hg1) (fun e => by have := Option.some.inj e; omega))).trans hg1
  obtain ⟨k, hke⟩ : ∃ k, lb - o = k := ⟨_, rfl⟩
  rw [hke] at h e0 e1 hk ⊢
  have k1 : ((k : Int) == (lq : Int)) = false := by rw [beq_eq_false_iff_ne]; omega
  clear hb hq hgr hke
  go_enter Tryd.func15, Tryd.ntmps15
  go_wp2_with (first | (go_at_call 35; refine h.mono ?_; rintro e w' ⟨rfl, m, rfl⟩) | (go_at_call 16; refine (is_same a0 _).mono ?_; rintro e w' ⟨rfl, hq⟩; obtain rfl := hq.symm))
  go_ret
  exact ⟨rfl, m, rfl⟩
end Go.Proofs.Qxb6605986aDoor
