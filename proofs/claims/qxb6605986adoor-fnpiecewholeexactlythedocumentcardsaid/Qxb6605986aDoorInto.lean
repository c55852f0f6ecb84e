import Derived.Test.Qxb6605986aDoorRead
namespace Go.Proofs.Qxb6605986aDoor
open Go.RowKit Go.Deep

theorem doc_nil (v : Value) (w : World) : (binOp .eql 37 (.iface 25 v) .nilIface).run Tryd.prog w = .ok (.bool false) w := by kernel_rfl
theorem nil_nil (w : World) : (binOp .eql 37 .nilIface .nilIface).run Tryd.prog w = .ok (.bool true) w := by kernel_rfl

/-- The block of a piece that a call is handed. -/
def pcObj (v : Value) (off n : Int) : Obj := .cells #[v, .int .i64 off, .int .i64 n] 39

set_option maxHeartbeats 1600000 in
theorem into14 (mb : Nat) (off n : Int) (aq : Option Addr) (lq cq : Nat) (w : World) (R : Value) (Q : World → Prop)
    (h : Calls Tryd.prog 15 #[.iface 25 (.pointer (some ⟨mb, 0, none⟩)), .slice aq lq cq, .int .i64 off] (w.alloc (pcObj (.iface 25 (.pointer (some ⟨mb, 0, none⟩))) off n)) fun e w' => e = .returned R ∧ Q w') :
    Calls Tryd.prog 14 #[.agg #[.iface 25 (.pointer (some ⟨mb, 0, none⟩)), .int .i64 off, .int .i64 n], .slice aq lq cq] w fun e w' => e = .returned R ∧ Q w' := by
  have hn := doc_nil (.pointer (some ⟨mb, 0, none⟩))
  unfold pcObj at h
  go_enter Tryd.func14, Tryd.ntmps14
  go_wp2_with (go_at_call 15; refine h.mono ?_; rintro e w' ⟨rfl, hq⟩)
  go_ret
  exact ⟨rfl, hq⟩

set_option maxHeartbeats 1600000 in
theorem into9 (mb : Nat) (off n : Int) (aq : Option Addr) (lq cq : Nat) (w : World) (R : Value) (Q : World → Prop)
    (h : Calls Tryd.prog 15 #[.iface 25 (.pointer (some ⟨mb, 0, none⟩)), .slice aq lq cq, .int .i64 off] (w.alloc (pcObj (.iface 25 (.pointer (some ⟨mb, 0, none⟩))) off n)) fun e w' => e = .returned R ∧ Q w') :
    Calls Tryd.prog 9 #[.pointer (some ⟨mb, 0, none⟩), .int .i64 off, .int .i64 n, .slice aq lq cq] w fun e w' => e = .returned R ∧ Q w' := by
  have h2 := into14 mb off n aq lq cq w R Q h
  go_enter Tryd.func9, Tryd.ntmps9
  go_wp2_with (go_at_call 14; refine h2.mono ?_; rintro e w' ⟨rfl, hq⟩)
  go_ret
  exact ⟨rfl, hq⟩

set_option maxHeartbeats 1600000 in
theorem nl14 (off n : Int) (gq lq cq : Nat) (w : World) (x : Value) (hlq : 0 < lq) (hq : w.cell? ⟨gq, 0, none⟩ = some x) (hf : w.frozen? ⟨gq, 0, none⟩ = false) :
    Calls Tryd.prog 14 #[.agg #[.nilIface, .int .i64 off, .int .i64 n], .slice (some ⟨gq, 0, none⟩) lq cq] w fun e w' => e = .returned .nilIface ∧ w' = (w.alloc (pcObj .nilIface off n)).setCell ⟨gq, 0, none⟩ (.int .u8 10) := by
  have hn := nil_nil
  have hlt := World.block_lt_of_cell? _ _ hq
  have d0 := (World.cell?_alloc_lt w (pcObj .nilIface off n) ⟨gq, 0, none⟩ hlt).trans hq
  have df := (World.frozen?_alloc_old w (pcObj .nilIface off n) ⟨gq, 0, none⟩ (Nat.ne_of_lt hlt)).trans hf
  have k1 : (0 : Int) < (lq : Int) := by omega
  unfold pcObj at d0 df ⊢
  go_enter Tryd.func14, Tryd.ntmps14
  go_wp2
  go_ret
  refine ⟨rfl, ?_⟩
  rfl

set_option maxHeartbeats 1600000 in
theorem nl12 (off n : Int) (gq lq cq : Nat) (w : World) (x : Value) (hlq : 0 < lq) (hq : w.cell? ⟨gq, 0, none⟩ = some x) (hf : w.frozen? ⟨gq, 0, none⟩ = false) :
    Calls Tryd.prog 12 #[.int .i64 off, .int .i64 n, .slice (some ⟨gq, 0, none⟩) lq cq] w fun e w' => e = .returned .nilIface ∧ w' = (w.alloc (pcObj .nilIface off n)).setCell ⟨gq, 0, none⟩ (.int .u8 10) := by
  have h2 := nl14 off n gq lq cq w x hlq hq hf
  go_enter Tryd.func12, Tryd.ntmps12
  go_wp2_with (go_at_call 14; refine h2.mono ?_; rintro e w' ⟨rfl, hw⟩; obtain rfl := hw.symm)
  go_ret
  exact ⟨rfl, rfl⟩

theorem new7 (a : Option Addr) (len cap : Nat) (w : World) : Calls Tryd.prog 7 #[.slice a len cap] w fun e w' => e = .returned (.pointer (some ⟨w.heap.size, 0, none⟩)) ∧ w' = w.alloc (.cells #[.slice a len cap] 35) := by
  go_enter Tryd.func7, Tryd.ntmps7
  go_wp2
  go_ret
  exact ⟨rfl, rfl⟩
end Go.Proofs.Qxb6605986aDoor
