import Derived.Test.Qxb6605986aDoorRows
import Derived.Test.Qxb6605986aDoorBase
import Derived.ProofKit
import Derived.LaidMore
import Derived.OpenShut
import Derived.Stop.Joined
import Derived.Stop.LaidTwo
namespace Go.Proofs.Qxb6605986aDoor
open Go.ChangeShapes Go.WideShapes Go.ChangeAt Go.RowKit

theorem own : ownKnob Tryd.prog.godebug = none := by kernel_rfl
theorem laidOut : laidOutB Tryd.prog = true := by kernel_rfl
theorem gEnd : Tryd.prog.globalNamed "io.EOF" = some 0 := by kernel_rfl
theorem gEarly : Tryd.prog.globalNamed "io.ErrUnexpectedEOF" = some 1 := by kernel_rfl
theorem tEnd : (Tryd.prog.globals[0]?).map (·.type) = some 29 := by kernel_rfl
theorem tEarly : (Tryd.prog.globals[1]?).map (·.type) = some 29 := by kernel_rfl
theorem cells89 : Tryd.prog.cellsOf 89 = 1 := by kernel_rfl
theorem cells9 : Tryd.prog.cellsOf 9 = 1 := by kernel_rfl
/-- The two listed variables. -/
abbrev laid2 : List (String × DataW Unit) := [("io.EOF", Rows.laid_io_EOF), ("io.ErrUnexpectedEOF", Rows.laid_io_ErrUnexpectedEOF)]

/-- The door's own heap meets the condition. -/
theorem door_met (os : Os) (args : Array Value) : laidMetH Tryd.prog laid2 ((World.doorLaid Tryd.prog 47 os).forCall (fun _ _ => 0) ⟨#[], args, []⟩).memory :=
  laidMetH_of_parts3 (fuel := 8) (laidMet_of_run' 8 (by kernel_rfl) (by kernel_rfl)) (by kernel_rfl) (by kernel_rfl)

/-- What the condition gives the walks: the two variables' cells. -/
theorem of_laid {W : World} (h : laidMetH Tryd.prog laid2 W) : ∃ a0 a1 : Addr, W.cell? ⟨0, 0, none⟩ = some (.iface 63 (.pointer (some a0))) ∧ W.cell? ⟨1, 0, none⟩ = some (.iface 63 (.pointer (some a1))) := by
  rw [MakeChecks.laidMetH_plain _ _ _ (by kernel_rfl)] at h
  obtain ⟨a0, a1, s0, s1, c0, c1, t0, t1, hv0, hv1, _⟩ := laid_sentinels2 h gEnd tEnd gEarly tEarly Tryd.underlying29
    (fun u hu => typeName_ptr_named (nm := "errors.errorString") (tp := 63) (by kernel_rfl) (by kernel_rfl) (by decide) u (hu.trans (congrArg some (by decide)))) Tryd.underlying63 Tryd.underlying89 rfl rfl Tryd.underlying9 cells89 cells9
  exact ⟨a0, a1, by simpa using World.var?_cell gEnd hv0 0, by simpa using World.var?_cell gEarly hv1 0⟩

/-- What the walk is told of a slice of bytes that came in. -/
def IsRow (k : IntKind) (w : World) (a : Option Addr) (len cap : Nat) (zs : List Int) : Prop :=
  (a = none ∧ len = 0 ∧ cap = 0 ∧ zs = []) ∨
  ∃ x, a = some x ∧ len ≤ cap ∧ cap ≤ maxLen ∧ zs.length = cap ∧ (∀ i, i < zs.length → w.cell? (x.add i) = some (.int k (zs.getD i 0))) ∧ ∀ n ∈ zs, (Lit.int k n).wf = true

theorem in8_of {w : World} {a : Option Addr} {len cap : Nat} {z : List Int} (h : IsRow .u8 w a len cap z) : In8 w a len (fun j => z.getD j 0) := by
  rcases h with ⟨_, h, _, _⟩ | ⟨y, rfl, hl, _, hz, hc, hw⟩
  · exact .inl h
  · by_cases hp : 0 < z.length
    · obtain ⟨b, off, rfl, hcell⟩ := ints_at hc hp
      exact .inr ⟨b, off, rfl, fun j hj => hcell j (by omega)⟩
    · exact .inl (by omega)
end Go.Proofs.Qxb6605986aDoor
