import Derived.Test.Qxb6605736aFit
import Derived.ArgAppend
namespace Go.Proofs.Qxb6605736a
open Go.RowKit Go.Deep

theorem zeros_u8 (n : Nat) : Builtin.zeroCells (Value.int .u8 0).cells n = Array.replicate n (Value.int .u8 0) := by
  apply Array.ext
  · simp [Builtin.zeroCells, Value.cells]
  · intro i h1 h2
    simp [Builtin.zeroCells, Value.cells, Nat.mod_one]

section
variable {P : Program} (w : World)

theorem run_zeros_room (t ti ty e : TypeId) (i : TypeInfo) (ht : P.underlying t = some (.slice e)) (hti : P.underlying ti = some (.int .i64)) (hi : P.info? e = some i) (hz : i.zero = some (.int .u8 0)) (hs : i.size = 1) (hb : i.bytes = 1)
    (g sLen sCap m : Nat) (hm1 : 0 < m) (hm : m ≤ 1000000) (hroom : sLen + m ≤ sCap) (hc : ∀ j, j < m → (w.cell? ⟨g, sLen + j, none⟩).isSome = true) (hf : ∀ j, j < m → w.frozen? ⟨g, sLen + j, none⟩ = false) :
    (Builtin.append_ #[t, ti] ty #[.slice (some ⟨g, 0, none⟩) sLen sCap, .int .i64 m]).run P w = .ok (.slice (some ⟨g, 0, none⟩) (sLen + m) sCap) (w.setCells g sLen (List.replicate m (.int .u8 0))) := by
  have hst := run_storeCells_cells (P := P) g sLen (List.replicate m (Value.int .u8 0)) 0 w (by simpa using hc) (by simpa using hf) (by intro v hv; rw [List.eq_of_mem_replicate hv]; rfl)
  simp only [Nat.add_zero] at hst
  have hw : IntKind.i64.wrap (m : Int) = (m : Int) := by rw [IntKind.wrap_i64]; omega
  have h0 : ¬ ((m : Int) < 0) := by omega
  have h48 : ¬ ((281474976710656 : Int) < (m : Int)) := by omega
  have hm0 : m ≠ 0 := by omega
  simp [Builtin.append_, run_underlying ht, run_underlying hti, sizeOf, typeInfo, zeroValue, hi, hz, hs, hb, hw, h0, h48, hroom, Addr.add_lit, asInt, asIntOf, zeros_u8, hst, hm0]

theorem run_zeros_grow (t ti ty e : TypeId) (i : TypeInfo) (ht : P.underlying t = some (.slice e)) (hti : P.underlying ti = some (.int .i64)) (hi : P.info? e = some i) (hz : i.zero = some (.int .u8 0)) (hs : i.size = 1) (hb : i.bytes = 1)
    (g sLen sCap m : Nat) (hm1 : 0 < m) (hm : m ≤ 1000000) (hlen : sLen ≤ 1000000) (hgrow : sCap < sLen + m) (olds : List Value) (hlo : olds.length = sLen) (holds : ∀ j v, olds[j]? = some v → w.cell? ⟨g, j, none⟩ = some v) :
    (Builtin.append_ #[t, ti] ty #[.slice (some ⟨g, 0, none⟩) sLen sCap, .int .i64 m]).run P w =
      .ok (.slice (some ⟨w.heap.size, 0, none⟩) (sLen + m) (grownCap w (sLen + m) sCap e))
        (w.drew.alloc (.cells (olds.toArray ++ Array.replicate m (.int .u8 0) ++ Array.replicate (grownCap w (sLen + m) sCap e - (sLen + m)) (.int .u8 0)) e)) := by
  have hw : IntKind.i64.wrap (m : Int) = (m : Int) := by rw [IntKind.wrap_i64]; omega
  have h0 : ¬ ((m : Int) < 0) := by omega
  have h48 : ¬ ((281474976710656 : Int) < (m : Int)) := by omega
  have hm0 : m ≠ 0 := by omega
  have hn : ¬ (sLen + m ≤ sCap) := by omega
  have h63' : ¬ (9223372036854775807 < ((sLen : Int) + (m : Int))) := by omega
  have h48' : ¬ (281474976710656 < Builtin.nextslicecap (sLen + m) sCap) := by have := nextslicecap_le hgrow; omega
  have hfo := run_firstCells_some (P := P) w.drew 1 sLen ⟨g, 0, none⟩ sLen sCap olds (by omega) (fun j v h => by rw [Addr.add_lit]; simpa using holds j v h)
  simp [Builtin.append_, run_underlying ht, run_underlying hti, sizeOf, typeInfo, zeroValue, hi, hz, hs, hb, hw, h0, h48, hn, h63', h48', Addr.add_lit, asInt, asIntOf, zeros_u8, hfo, hm0, Question.forced, newRow, grownCap]
end

theorem grown_setCells (b : Nat) : ∀ (vs : List Value) (o : Nat) (w : World), w.grownBy (w.setCells b o vs) (some b)
  | [], _, w => ⟨rfl, rfl, rfl, Nat.le_refl _, fun _ _ _ => rfl⟩
  | v :: r, o, w => by
    have h := grown_setCells b r (o + 1) (w.setCell ⟨b, o, none⟩ v)
    refine ⟨h.os, h.tape, h.output, ?_, fun k hk hne => ?_⟩
    · have := h.size; rw [World.size_setCell] at this; exact this
    · refine (h.block k (by rw [World.size_setCell]; exact hk) hne).trans (Below.heap_setCell _ _ _ _ (fun e => hne (by rw [e])))

/-- What 'append(x, make([]byte, m)...)' leaves. -/
structure App (w : World) (g L m : Nat) (bs : Nat → Nat) (g' cap' : Nat) (w' : World) (bs' : Nat → Nat) : Prop where
  row : Row w' g' cap' bs'
  same : ∀ j, j < L → bs' j = bs j
  fits : L + m ≤ cap'
  small : cap' ≤ maxLen
  lies : g' = g ∨ g' = w.heap.size
  grown : w.grownBy w' (some g)

theorem Try.underlying3' : Try.prog.underlying 3 = some (.int .i64) := by kernel_rfl

theorem run_zeros (w : World) (ty : TypeId) (g L cap m : Nat) (bs : Nat → Nat) (R : Row w g cap bs) (hL : L ≤ cap) (hc : cap ≤ maxLen) (hm1 : 0 < m) (hm : m ≤ 1000000) (hl : L ≤ 1000000) :
    ∃ g' cap' w' bs', (Builtin.append_ #[49, 3] ty #[.slice (some ⟨g, 0, none⟩) L cap, .int .i64 m]).run Try.prog w = .ok (.slice (some ⟨g', 0, none⟩) (L + m) cap') w' ∧ App w g L m bs g' cap' w' bs' := by
  obtain ⟨i, hi, hzz⟩ := Option.map_eq_some_iff.1 Try.info5
  simp only [Prod.mk.injEq] at hzz
  obtain ⟨hz, hs, hb⟩ := hzz
  by_cases hroom : L + m ≤ cap
  · refine ⟨g, cap, _, fun j => if L ≤ j ∧ j < L + m then 0 else bs j, run_zeros_room w 49 3 ty 5 i Try.underlying49 Try.underlying3' hi hz hs hb g L cap m hm1 hm hroom
      (fun j hj => by rw [(R (L + j) (by omega)).1]; rfl) (fun j hj => (R (L + j) (by omega)).2.1), ?_, fun j hj => by rw [if_neg (by omega)], hroom, hc, .inl rfl, grown_setCells g _ _ _⟩
    intro j hj
    obtain ⟨h1, h2, h3⟩ := R j hj
    refine ⟨?_, by rw [World.frozen?_setCells]; exact h2, by dsimp only; split <;> omega⟩
    by_cases hin : L ≤ j ∧ j < L + m
    · obtain ⟨d, rfl⟩ := Nat.exists_eq_add_of_le hin.1
      rw [World.cell?_setCells_in g _ L w (fun q hq => by rw [(R (L + q) (by rw [List.length_replicate] at hq; omega)).1]; rfl) d (by rw [List.length_replicate]; omega)]
      simp only [if_pos hin, List.getElem_replicate]; rfl
    · rw [World.cell?_setCells_out g _ L w _ (fun _ _ => by rw [List.length_replicate]; dsimp only; omega), h1]
      simp only [if_neg hin]
  · have hgr := run_zeros_grow w 49 3 ty 5 i Try.underlying49 Try.underlying3' hi hz hs hb g L cap m hm1 hm hl (by omega) ((List.range L).map fun j => Value.int .u8 (bs j : Nat)) (by simp)
      (fun j v hj => by
        rw [List.getElem?_map, Option.map_eq_some_iff] at hj
        obtain ⟨q, hq, rfl⟩ := hj
        have hjL : j < L := by
          rcases Nat.lt_or_ge j L with h | h
          · exact h
          · rw [List.getElem?_eq_none (by simpa using h)] at hq; cases hq
        rw [List.getElem?_range hjL] at hq
        cases hq
        exact (R j (by omega)).1)
    have hge := grownCap_ge w (L + m) cap 5
    have hle := grownCap_le_maxLen w (L + m) cap 5 (by unfold maxLen; omega)
    refine ⟨_, _, _, fun j => if j < L then bs j else 0, hgr, ?_, fun j hj => by rw [if_pos hj], hge, hle, .inr rfl, ⟨rfl, rfl, rfl, by simp, fun k hk _ => Below.heap_alloc w.drew _ k hk⟩⟩
    generalize grownCap w (L + m) cap 5 = C at *
    intro j hj
    refine ⟨?_, ?_, ?_⟩
    · have h := World.cell?_alloc_new w.drew (((List.range L).map fun j => Value.int .u8 (bs j : Nat)).toArray ++ Array.replicate m (Value.int .u8 0) ++ Array.replicate (C - (L + m)) (Value.int .u8 0)) 5 j
      refine h.trans ?_
      rw [Array.getElem?_append, Array.getElem?_append]
      simp only [Array.size_append, List.size_toArray, List.length_map, List.length_range, Array.size_replicate]
      by_cases a : j < L
      · rw [if_pos (by omega), if_pos a, if_pos a]; simp [a]
      · rw [if_neg a, if_neg a]
        by_cases b : j < L + m
        · rw [if_pos b, Array.getElem?_replicate, if_pos (by omega)]; rfl
        · rw [if_neg b, Array.getElem?_replicate, if_pos (by omega)]; rfl
    · exact World.frozen?_alloc_new w.drew _ _ j
    · dsimp only; split
      · exact (R j (by omega)).2.2
      · omega

/-- The same as one step of a region that draws its order. -/
theorem step_zeros {ops : Array Oper} {o : Oper} {a : Act} {w : World} {K : Act → World → Prop} {Q : Exit → Act → World → Prop} {E : Prop}
    (hg : o.guard = none) (s x : Operand) (hop : o.op = Op.call { callee := Callee.builtin Builtin.append, args := #[s, x], argTypes := #[49, 3] })
    (g L cap m : Nat) (bs : Nat → Nat) (hs : a.eval s = .slice (some ⟨g, 0, none⟩) L cap) (hx : a.eval x = .int .i64 m) (R : Row w g cap bs) (hL : L ≤ cap) (hc : cap ≤ maxLen) (hm1 : 0 < m) (hm : m ≤ 1000000) (hl : L ≤ 1000000)
    (hK : ∀ g' cap' w' bs', App w g L m bs g' cap' w' bs' → K (a.put o.dst (.slice (some ⟨g', 0, none⟩) (L + m) cap')) w') :
    if Region.wanted o (yielded ops a.tmps) = true then Oper.wp Try.prog o a w K Q else E := by
  have hw : Region.wanted o (yielded ops a.tmps) = true := by simp [Region.wanted, hg]
  rw [if_pos hw]
  obtain ⟨g', cap', w', bs', hrun, happ⟩ := run_zeros w o.type g L cap m bs R hL hc hm1 hm hl
  unfold Oper.wp
  simp [execOp, hop, resolve, invoke, builtin, hs, hx, hrun, Result.andThen]
  exact hK g' cap' w' bs' happ
end Go.Proofs.Qxb6605736a
