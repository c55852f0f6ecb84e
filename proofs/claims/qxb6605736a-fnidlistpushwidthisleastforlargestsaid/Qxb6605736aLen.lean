import Derived.Test.Qxb6605736aRows
import Derived.Lib.Strings
import Derived.Lib.Slices
import Derived.Lib.Small
import Derived.Lib.Walk
import Derived.Lib.BitFns
namespace Go.Proofs.Qxb6605736a


set_option maxHeartbeats 1600000 in
set_option maxRecDepth 100000 in
/-- bits.Len32. -/
theorem len_any (x : Int) (w : World) (h0 : 0 ≤ x) (h1 : x ≤ 4294967295) :
    Calls Try.prog 34 #[.int .u32 x] w fun e w' => e = .returned (.int .i64 (Lib.bitLen x.toNat)) ∧ w' = w := by
  go_enter Try.func34, Try.ntmps34
  go_wp2
  all_goals (go_ret; refine ⟨congrArg Ending.returned (congrArg (Value.int IntKind.i64) ?_), rfl⟩)
  all_goals first
    | (rw [Lib.len8_of (x / 65536 / 256 % 256) (by omega) (by omega)]
       have e : (x / 65536 / 256 % 256).toNat = x.toNat / 16777216 := by omega
       have l := Lib.bitLen_le8' (x / 65536 / 256 % 256) (by omega) (by omega)
       have s := Lib.bitLen_shift24 x.toNat (by omega) (by omega)
       rw [e] at l ⊢
       omega)
    | (rw [Lib.len8_of (x / 65536 % 256) (by omega) (by omega)]
       have e : (x / 65536 % 256).toNat = x.toNat / 65536 := by omega
       have l := Lib.bitLen_le8' (x / 65536 % 256) (by omega) (by omega)
       have s := Lib.bitLen_shift16 x.toNat (by omega) (by omega)
       rw [e] at l ⊢
       omega)
    | (rw [Lib.len8_of (x / 256 % 256) (by omega) (by omega)]
       have e : (x / 256 % 256).toNat = x.toNat / 256 := by omega
       have l := Lib.bitLen_le8' (x / 256 % 256) (by omega) (by omega)
       have s := Lib.bitLen_shift8 x.toNat (by omega) (by omega)
       rw [e] at l ⊢
       omega)
    | (rw [Lib.len8_of (x % 256) (by omega) (by omega)]
       have e : (x % 256).toNat = x.toNat := by omega
       have l := Lib.bitLen_le8' (x % 256) (by omega) (by omega)
       rw [e] at l ⊢
       omega)

/-- The fewest bytes, 1 to 4, that hold p. -/
def need (p : Nat) : Nat := if p < 256 then 1 else if p < 65536 then 2 else if p < 16777216 then 3 else 4

theorem bitLen_pos (x : Nat) (h : x ≠ 0) (hx : x < 2 ^ 64) : 1 ≤ Lib.bitLen x := by
  rw [Lib.bitLen_half x h hx]; omega

theorem width_of_len (p : Nat) (hp : p < 4294967296) : max 1 ((Lib.bitLen p + 7) / 8) = need p := by
  unfold need
  split
  · have := Lib.bitLen_le p 8 (by omega) (by omega); omega
  · split
    · have s := Lib.bitLen_shift8 p (by omega) (by omega)
      have l := Lib.bitLen_le (p / 256) 8 (by omega) (by omega)
      have q := bitLen_pos (p / 256) (by omega) (by omega)
      omega
    · split
      · have s := Lib.bitLen_shift16 p (by omega) (by omega)
        have l := Lib.bitLen_le (p / 65536) 8 (by omega) (by omega)
        have q := bitLen_pos (p / 65536) (by omega) (by omega)
        omega
      · have s := Lib.bitLen_shift24 p (by omega) (by omega)
        have l := Lib.bitLen_le (p / 16777216) 8 (by omega) (by omega)
        have q := bitLen_pos (p / 16777216) (by omega) (by omega)
        omega
end Go.Proofs.Qxb6605736a
