import Derived.Test.Qxb6605986aDoorWhole
namespace Go.Proofs.Qxb6605986aDoor
open Go.RowKit Go.Deep

theorem Arr8.aside {w : World} {g h len : Nat} {y : Nat → Int} (hA : Arr8 w g len y) (vs : List Value) (hgh : g ≠ h) (hg : g < w.heap.size) : Arr8 (w.setCells h 0 vs) g len y :=
  hA.kept ((grown_setCells h vs 0 w).block g hg (fun e => hgh (Option.some.inj e)))

set_option maxRecDepth 100000 in
set_option maxHeartbeats 6400000 in
/-- Another document: the piece is not whole of the first. -/
theorem walk3_other (ab : Option Addr) (lb cb : Nat) (ac : Option Addr) (lc cc : Nat) (off n : Int) (yb yc : Nat → Int) (w : World) (hIb : In8 w ab lb yb) (hIc : In8 w ac lc yc) (hz : ∀ w', Calls Tryd.prog 5 #[.slice ab lb cb, .bool false, .slice ac lc cc, .int .i64 off, .int .i64 n] w' fun e w'' => e = .returned (.bool true) ∧ w'' = w')
    (h0 : lb ≤ 1048576) (h1 : lc ≤ 1048576) (h2 : lb + lc ≤ 1048576) :
    Calls Tryd.prog 3 #[.slice ab lb cb, .bool false, .slice ac lc cc, .int .i64 off, .int .i64 n] w fun e w' => e = .returned (.bool true) ∧ Below w.heap.size w w' := by
  have d0 : decide ((1048576 : Int) < (lb : Int)) = false := by simp; omega
  have d1 : decide ((1048576 : Int) < (lc : Int)) = false := by simp; omega
  have d2 : ¬ ((1048576 : Int) < (lb : Int) + (lc : Int)) := by omega
  go_enter Tryd.func3, Tryd.ntmps3
  go_wp2_with (go_at_call 5; refine (hz _).mono ?_; rintro e w' ⟨rfl, hs⟩; obtain rfl := hs.symm)
  go_at_call 6
  refine (clone6 ab lb cb yb _ hIb h0).mono ?_
  rintro e w1 ⟨a1, c1, rfl, hC1, hB1⟩
  go_wp2_with fail
  go_at_call 6
  refine (clone6 ac lc cc yc _ (hIc.later hB1) h1).mono ?_
  rintro e w2 ⟨a2, c2, rfl, hC2, hB2⟩
  go_wp2_with fail
  go_at_call 7
  refine (new7 a1 lb c1 w2).mono ?_
  rintro e w3 ⟨rfl, hw3⟩
  have hb2 : Below w.heap.size w w2 := hB1.trans (hB2.mono hB1.size)
  have s3 : w3.heap.size = w2.heap.size + 1 := by rw [hw3, World.size_alloc]
  have hb3 : Below w.heap.size w w3 := by rw [hw3]; exact hb2.alloc hb2.size _
  have hd3 : w3.heap[w2.heap.size]? = some (.cells #[.slice a1 lb c1] 35 (0, 0)) := by
    rw [hw3]; exact heap_alloc_new w2 _
  clear hw3 hC1 hC2
  go_wp2_with fail
  go_at_call 7
  refine (new7 a2 lc c2 w3).mono ?_
  rintro e w4 ⟨rfl, hw4⟩
  have s4 : w4.heap.size = w3.heap.size + 1 := by rw [hw4, World.size_alloc]
  have hb4 : Below w.heap.size w w4 := by rw [hw4]; exact hb3.alloc hb3.size _
  have hd : w4.heap[w2.heap.size]? = some (.cells #[.slice a1 lb c1] 35 (0, 0)) := by
    rw [hw4, Below.heap_alloc _ _ _ (by omega)]; exact hd3
  have he : w4.heap[w3.heap.size]? = some (.cells #[.slice a2 lc c2] 35 (0, 0)) := by
    rw [hw4]; exact heap_alloc_new w3 _
  have hp := piece8 w3.heap.size w2.heap.size off n w4 false (whole_no w3.heap.size w2.heap.size off n w4 (by omega) he hd)
  clear hd3 hd he hw4 s3 s4
  go_wp2_with fail
  go_at_call 8
  refine hp.mono ?_
  rintro e w5 ⟨rfl, hb5⟩
  clear hp
  go_wp2_with fail
  go_ret
  exact ⟨rfl, hb4.trans (hb5.mono hb4.size)⟩

set_option maxRecDepth 100000 in
set_option maxHeartbeats 6400000 in
/-- The same document: at an offset that is not nought; or at nought, with another length. -/
theorem walk3_not (ab : Option Addr) (lb cb : Nat) (ac : Option Addr) (lc cc : Nat) (off n : Int) (yb yc : Nat → Int) (w : World) (hIb : In8 w ab lb yb) (hIc : In8 w ac lc yc) (hz : ∀ w', Calls Tryd.prog 5 #[.slice ab lb cb, .bool true, .slice ac lc cc, .int .i64 off, .int .i64 n] w' fun e w'' => e = .returned (.bool true) ∧ w'' = w')
    (h0 : lb ≤ 1048576) (h1 : lc ≤ 1048576) (h2 : lb + lc ≤ 1048576) (hno : off ≠ 0 ∨ n ≠ (lb : Int)) :
    Calls Tryd.prog 3 #[.slice ab lb cb, .bool true, .slice ac lc cc, .int .i64 off, .int .i64 n] w fun e w' => e = .returned (.bool true) ∧ Below w.heap.size w w' := by
  have d0 : decide ((1048576 : Int) < (lb : Int)) = false := by simp; omega
  have d1 : decide ((1048576 : Int) < (lc : Int)) = false := by simp; omega
  have d2 : ¬ ((1048576 : Int) < (lb : Int) + (lc : Int)) := by omega
  go_enter Tryd.func3, Tryd.ntmps3
  go_wp2_with (go_at_call 5; refine (hz _).mono ?_; rintro e w' ⟨rfl, hs⟩; obtain rfl := hs.symm)
  go_at_call 6
  refine (clone6 ab lb cb yb _ hIb h0).mono ?_
  rintro e w1 ⟨a1, c1, rfl, hC1, hB1⟩
  go_wp2_with fail
  go_at_call 6
  refine (clone6 ac lc cc yc _ (hIc.later hB1) h1).mono ?_
  rintro e w2 ⟨a2, c2, rfl, hC2, hB2⟩
  go_wp2_with fail
  go_at_call 7
  refine (new7 a1 lb c1 w2).mono ?_
  rintro e w3 ⟨rfl, hw3⟩
  have hb2 : Below w.heap.size w w2 := hB1.trans (hB2.mono hB1.size)
  have hb3 : Below w.heap.size w w3 := by rw [hw3]; exact hb2.alloc hb2.size _
  have hd : w3.cell? ⟨w2.heap.size, 0, none⟩ = some (.slice a1 lb c1) := by
    rw [hw3]; exact World.cell?_alloc_new _ _ _ 0
  clear hw3 hC1 hC2
  by_cases ho : off = 0
  · subst ho
    have hn : (n == (lb : Int)) = false := by rw [beq_eq_false_iff_ne]; omega
    have hp := piece8 w2.heap.size w2.heap.size 0 n w3 false (whole_len w2.heap.size a1 lb c1 n w3 hd false hn)
    go_wp2_with fail
    go_at_call 8
    refine hp.mono ?_
    rintro e w5 ⟨rfl, hb5⟩
    clear hp
    go_wp2_with fail
    go_ret
    exact ⟨rfl, hb3.trans (hb5.mono hb3.size)⟩
  · have hn : (off == 0) = false := by rw [beq_eq_false_iff_ne]; exact ho
    have hp := piece8 w2.heap.size w2.heap.size off n w3 false (whole_off w2.heap.size off n w3 ho)
    go_wp2_with fail
    go_at_call 8
    refine hp.mono ?_
    rintro e w5 ⟨rfl, hb5⟩
    clear hp
    go_wp2_with fail
    go_ret
    exact ⟨rfl, hb3.trans (hb5.mono hb3.size)⟩

set_option maxRecDepth 100000 in
set_option maxHeartbeats 6400000 in
/-- The whole document: the read yields it. -/
theorem walk3_whole (ab : Option Addr) (lb cb : Nat) (ac : Option Addr) (lc cc : Nat) (yb yc : Nat → Int) (a0 : Addr) (w : World) (hIb : In8 w ab lb yb) (hIc : In8 w ac lc yc) (hz : ∀ w', Calls Tryd.prog 5 #[.slice ab lb cb, .bool true, .slice ac lc cc, .int .i64 0, .int .i64 lb] w' fun e w'' => e = .returned (.bool true) ∧ w'' = w')
    (hg : w.cell? ⟨0, 0, none⟩ = some (.iface 63 (.pointer (some a0)))) (h0 : lb ≤ 1048576) (h1 : lc ≤ 1048576) (h2 : lb + lc ≤ 1048576) :
    Calls Tryd.prog 3 #[.slice ab lb cb, .bool true, .slice ac lc cc, .int .i64 0, .int .i64 lb] w fun e w' => e = .returned (.bool true) ∧ Below w.heap.size w w' := by
  have d0 : decide ((1048576 : Int) < (lb : Int)) = false := by simp; omega
  have d1 : decide ((1048576 : Int) < (lc : Int)) = false := by simp; omega
  have d2 : ¬ ((1048576 : Int) < (lb : Int) + (lc : Int)) := by omega
  have hnn := nil_err
  have hmk := hmk22 lb h0
  go_enter Tryd.func3, Tryd.ntmps3
  go_wp2_with (go_at_call 5; refine (hz _).mono ?_; rintro e w' ⟨rfl, hs⟩; obtain rfl := hs.symm)
  go_at_call 6
  refine (clone6 ab lb cb yb _ hIb h0).mono ?_
  rintro e w1 ⟨a1, c1, rfl, hC1, hB1⟩
  go_wp2_with fail
  go_at_call 6
  refine (clone6 ac lc cc yc _ (hIc.later hB1) h1).mono ?_
  rintro e w2 ⟨a2, c2, rfl, -, hB2⟩
  go_wp2_with fail
  go_at_call 7
  refine (new7 a1 lb c1 w2).mono ?_
  rintro e w3 ⟨rfl, hw3⟩
  have hb2 : Below w.heap.size w w2 := hB1.trans (hB2.mono hB1.size)
  have hL3 : Below w2.heap.size w2 w3 := by rw [hw3]; exact (Below.refl _ _).alloc (Nat.le_refl _) _
  have hb3 : Below w.heap.size w w3 := hb2.trans (hL3.mono hb2.size)
  have s3 : w3.heap.size = w2.heap.size + 1 := by rw [hw3, World.size_alloc]
  have hd : w3.cell? ⟨w2.heap.size, 0, none⟩ = some (.slice a1 lb c1) := by
    rw [hw3]; exact World.cell?_alloc_new _ _ _ 0
  clear hw3
  have hp := piece8 w2.heap.size w2.heap.size 0 lb w3 true (whole_len w2.heap.size a1 lb c1 lb w3 hd true (by simp))
  go_wp2_with fail
  go_at_call 8
  refine hp.mono ?_
  rintro e w5 ⟨rfl, hb5⟩
  clear hp
  go_wp2_with fail
  have hb5' := hb3.trans (hb5.mono hb3.size)
  have s35 := hb5.size
  have s2 := hb2.size
  have s12 := hB1.size
  have s23 := hB2.size
  obtain ⟨w7, hw7⟩ : ∃ w7, w7 = (w5.alloc (byteObj lb)).alloc (pcObj (.iface 25 (.pointer (some ⟨w2.heap.size, 0, none⟩))) 0 lb) := ⟨_, rfl⟩
  have s7 : w7.heap.size = w5.heap.size + 2 := by rw [hw7, World.size_alloc, World.size_alloc]
  have hL7 : Below w5.heap.size w5 w7 := by rw [hw7]; exact ((Below.refl _ _).alloc (Nat.le_refl _) _).alloc (by rw [World.size_alloc]; omega) _
  have hb7 := hb5'.trans (hL7.mono hb5'.size)
  have hd7 : w7.cell? ⟨w2.heap.size, 0, none⟩ = some (.slice a1 lb c1) := cell_later hL7 (cell_later hb5 hd)
  have hg7 := cell_later hb7 hg
  have Aq : Arr8 w7 w5.heap.size lb (fun _ => 0) := by
    have h := (arr8_made w5 lb (fun _ => 0)).later ((Below.refl _ _).alloc (Nat.le_refl _) (pcObj (.iface 25 (.pointer (some ⟨w2.heap.size, 0, none⟩))) 0 lb)) (by rw [World.size_alloc]; omega)
    rw [← hw7] at h
    intro j hj
    have := h j hj
    simpa using this
  go_at_call 9
  by_cases hl : lb = 0
  · subst hl
    refine (into9 w2.heap.size 0 _ _ 0 0 _ _ _ (hw7 ▸ rd_none w2.heap.size a1 0 c1 _ 0 0 a0 w7 hd7 hg7 (fun h => absurd h (Nat.not_lt_zero _)))).mono ?_
    rintro e w8 ⟨rfl, hb8⟩
    have hbz := hb7.trans ((hw7 ▸ hb8).mono hb7.size)
    clear hb8 hw7 hd7 hg7 Aq hC1 hd hmk
    go_wp2_with fail
    go_at_call 10
    refine (equal10 _ a1 0 0 c1 yb w8 (.inl rfl) (.inl rfl) (by omega)).mono ?_
    rintro e w9 ⟨rfl, m, rfl⟩
    go_wp2_with fail
    go_ret
    exact ⟨rfl, below_drewN hbz _⟩
  · rcases hC1 with ⟨_, e0, _⟩ | ⟨g1, rfl, ec1, hg1, hg1', hA1⟩
    · exact absurd e0 hl
    obtain rfl := ec1.symm
    have Ab : Arr8 w7 g1 lb yb := (((hA1.later hB2 hg1').later hL3 (by omega)).later hb5 (by omega)).later hL7 (by omega)
    refine (into9 w2.heap.size 0 _ _ lb lb _ _ _ (hw7 ▸ rd_full w2.heap.size g1 w5.heap.size lb lb 0 yb (fun _ => 0) w7 hd7 Ab Aq (by omega) (by omega))).mono ?_
    rintro e w8 ⟨rfl, hw8⟩
    rw [← hw7] at hw8
    have hbz : Below w.heap.size w w8 := by
      rw [hw8]; exact hb7.grown (grown_setCells _ _ _ _) (by omega) (fun k e => by have := Option.some.inj e; omega)
    have B3 := arr_copy (o := 0) (k := lb) (yb := yb) (Nat.le_refl lb) Aq
    have B1 := Ab.aside (cpy yb 0 lb) (show g1 ≠ w5.heap.size by omega) (by omega)
    rw [← hw8] at B1 B3
    have i1 : In8 w8 (some ⟨g1, 0, none⟩) lb (fun j => yb (0 + j)) := B1.in8 0 lb (by omega)
    have i3 : In8 w8 (some ⟨w5.heap.size, 0, none⟩) lb (fun j => yb (0 + j)) := .inr ⟨_, 0, rfl, fun j hj => by
      have := (B3 j hj).1
      simp only [mixed, if_pos hj] at this
      simpa using this⟩
    clear hw8 hw7 B1 B3 Ab Aq hd7 hg7 hA1 hd hmk
    go_wp2_with fail
    go_at_call 10
    refine (equal10 _ _ lb _ _ _ w8 i3 i1 h0).mono ?_
    rintro e w9 ⟨rfl, m, rfl⟩
    go_wp2_with fail
    go_ret
    exact ⟨rfl, below_drewN hbz _⟩

set_option maxRecDepth 100000 in
set_option maxHeartbeats 6400000 in
/-- The whole of FnPieceWholeExactlyTheDocument: the ways that answer at once, and the three walks. -/
theorem law3 (ab : Option Addr) (lb cb : Nat) (same : Bool) (ac : Option Addr) (lc cc : Nat) (off n : Int) (yb yc : Nat → Int) (a0 : Addr) (w : World) (hIb : In8 w ab lb yb) (hIc : In8 w ac lc yc)
    (hg : w.cell? ⟨0, 0, none⟩ = some (.iface 63 (.pointer (some a0)))) :
    Calls Tryd.prog 3 #[.slice ab lb cb, .bool same, .slice ac lc cc, .int .i64 off, .int .i64 n] w fun e w' => e = .returned (.bool true) ∧ Below w.heap.size w w' := by
  obtain ⟨b, hz⟩ := zz5 same ab ac lb cb lc cc off n
  cases b with
  | false =>
    clear hIb hIc
    go_enter Tryd.func3, Tryd.ntmps3
    go_wp2_with (go_at_call 5; refine (hz _).mono ?_; rintro e w' ⟨rfl, hs⟩; obtain rfl := hs.symm)
    go_ret
    exact ⟨rfl, Below.refl _ _⟩
  | true =>
    by_cases h0 : lb ≤ 1048576
    · have d0 : decide ((1048576 : Int) < (lb : Int)) = false := by simp; omega
      by_cases h1 : lc ≤ 1048576
      · have d1 : decide ((1048576 : Int) < (lc : Int)) = false := by simp; omega
        by_cases h2 : lb + lc ≤ 1048576
        · cases same with
          | false => exact walk3_other ab lb cb ac lc cc off n yb yc w hIb hIc hz h0 h1 h2
          | true =>
            by_cases h3 : off = 0 ∧ n = (lb : Int)
            · obtain ⟨rfl, rfl⟩ := h3
              exact walk3_whole ab lb cb ac lc cc yb yc a0 w hIb hIc hz hg h0 h1 h2
            · exact walk3_not ab lb cb ac lc cc off n yb yc w hIb hIc hz h0 h1 h2 (by omega)
        · have d2 : ((1048576 : Int) < (lb : Int) + (lc : Int)) := by omega
          have d3 : IntKind.i64.wrap ((lb : Int) + (lc : Int)) = (lb : Int) + (lc : Int) := by rw [IntKind.wrap_i64]; omega
          clear hIb hIc
          go_enter Tryd.func3, Tryd.ntmps3
          go_wp2_with (go_at_call 5; refine (hz _).mono ?_; rintro e w' ⟨rfl, hs⟩; obtain rfl := hs.symm)
          go_ret
          exact ⟨rfl, Below.refl _ _⟩
      · have d1 : (1048576 : Int) < (lc : Int) := by omega
        clear hIb hIc
        go_enter Tryd.func3, Tryd.ntmps3
        go_wp2_with (go_at_call 5; refine (hz _).mono ?_; rintro e w' ⟨rfl, hs⟩; obtain rfl := hs.symm)
        go_ret
        exact ⟨rfl, Below.refl _ _⟩
    · have d0 : (1048576 : Int) < (lb : Int) := by omega
      clear hIb hIc
      go_enter Tryd.func3, Tryd.ntmps3
      go_wp2_with (go_at_call 5; refine (hz _).mono ?_; rintro e w' ⟨rfl, hs⟩; obtain rfl := hs.symm)
      go_ret
      exact ⟨rfl, Below.refl _ _⟩
end Go.Proofs.Qxb6605986aDoor
