import Derived.Test.YbulkbjauQB
/-! queue[func()]: Push. -/
namespace Go.Proofs.Ybulkbjau
open Go.RowKit
set_option linter.unusedVariables false
attribute [local go_sem ↓] Go.wp_at_zero Go.wp_at_succ

/-- A recording task: the closure over two boxes. -/
def tk (p : Nat × Nat) : Value := .func (.func 19) #[] #[.pointer (some ⟨p.1, 0, none⟩), .pointer (some ⟨p.2, 0, none⟩)]
theorem tk_one (p : Nat × Nat) : (tk p).oneCell' = true := rfl

theorem mask16 (n : Nat) (h : n < 16) : bits .and .i64 n 15 = n := by
  have q : ∀ m : Fin 16, bits .and .i64 (m.val : Int) 15 = m.val := by decide
  exact q ⟨n, h⟩
theorem mask32 (n : Nat) (h : n < 32) : bits .and .i64 n 31 = n := by
  have q : ∀ m : Fin 32, bits .and .i64 (m.val : Int) 31 = m.val := by decide
  exact q ⟨n, h⟩

set_option maxRecDepth 100000 in
set_option maxHeartbeats 1000000 in
/-- Push into a ring with room, head at 0. -/
theorem push_room (A : Array Value) (T qb qo rb L n : Nat) (R : Array Value) (p : Nat × Nat) (hq : qo + 2 < A.size) (hL : L = 16 ∨ L = 32) (hR : R.size = L) (hn : n < L)
    (w : World) (hA : w.heap[qb]? = some (.cells (qput A qo (.slice (some ⟨rb, 0, none⟩) L L) 0 n) T (0, 0))) (hB : w.heap[rb]? = some (.cells R 1 (0, 0))) (hne : rb ≠ qb) :
    Calls Yba.prog 7 #[.pointer (some ⟨qb, qo, none⟩), tk p] w fun e w' => e = .returned (.tuple #[]) ∧ Fr (fun k => k = qb ∨ k = rb) w w' ∧
      w'.heap[rb]? = some (.cells (R.setIfInBounds n (tk p)) 1 (0, 0)) ∧ w'.heap[qb]? = some (.cells (qput A qo (.slice (some ⟨rb, 0, none⟩) L L) 0 (n + 1)) T (0, 0)) := by
  have c0 : w.cell? ⟨qb, qo, none⟩ = some (.slice (some ⟨rb, 0, none⟩) L L) := (cell_of hA qo).trans (qput0 hq)
  have c1 : w.cell? ⟨qb, qo + 1, none⟩ = some (.int .i64 0) := (cell_of hA (qo + 1)).trans (qput1 hq)
  have c2 : w.cell? ⟨qb, qo + 2, none⟩ = some (.int .i64 n) := (cell_of hA (qo + 2)).trans (qput2 hq)
  have f2 := free_of hA (qo + 2)
  obtain ⟨x, hx⟩ : ∃ x, R[n]? = some x := ⟨_, Array.getElem?_eq_getElem (by omega)⟩
  have cr : w.cell? ⟨rb, n, none⟩ = some x := (cell_of hB n).trans hx
  have fr := free_of hB n
  obtain ⟨W, hW⟩ : ∃ W, w.setCell ⟨rb, n, none⟩ (tk p) = W := ⟨_, rfl⟩
  have kA : W.heap[qb]? = some (.cells (qput A qo (.slice (some ⟨rb, 0, none⟩) L L) 0 n) T (0, 0)) := by rw [← hW]; exact (Below.heap_setCell _ _ _ _ (by simp; omega)).trans hA
  have kB : W.heap[rb]? = some (.cells (R.setIfInBounds n (tk p)) 1 (0, 0)) := by rw [← hW]; exact heap_setCell_same _ _ _ _ _ _ hB
  have d2 : W.cell? ⟨qb, qo + 2, none⟩ = some (.int .i64 n) := (cell_of kA (qo + 2)).trans (qput2 hq)
  have i2 := free_of kA (qo + 2)
  have g1 := heap_setCell_same W qb (qo + 2) _ T (.int .i64 (n + 1)) kA
  rw [qset2] at g1
  have g2 : (W.setCell ⟨qb, qo + 2, none⟩ (.int .i64 (n + 1))).heap[rb]? = some (.cells (R.setIfInBounds n (tk p)) 1 (0, 0)) := (Below.heap_setCell _ _ _ _ (by simp; omega)).trans kB
  have fr0 : Fr (fun k => k = qb ∨ k = rb) w W := hW ▸ (Fr.refl _ w).setCell (p := ⟨rb, n, none⟩) (.inl (.inr rfl)) _
  have FR := hid (fr0.setCell (p := ⟨qb, qo + 2, none⟩) (.inl (.inl rfl)) (.int .i64 (n + 1)))
  have G1 := hid g1
  have G2 := hid g2
  clear hA hB kA kB g1 g2 fr0
  rcases hL with rfl | rfl
  · have m16 := mask16 n hn
    have t1 : ((n : Int) == 16) = false := by simp; omega
    clear hR
    simp only [tk] at *
    go_enter Yba.func7, Yba.ntmps7
    go_wp2
    go_region
    go_wp2
    go_region
    go_wp2
    go_end0
    exact ⟨rfl, FR.out.drew.drew, G2.out, G1.out⟩
  · have m32 := mask32 n hn
    have t1 : ((n : Int) == 32) = false := by simp; omega
    clear hR
    simp only [tk] at *
    go_enter Yba.func7, Yba.ntmps7
    go_wp2
    go_region
    go_wp2
    go_region
    go_wp2
    go_end0
    exact ⟨rfl, FR.out.drew.drew, G2.out, G1.out⟩

set_option maxRecDepth 100000 in
set_option maxHeartbeats 1000000 in
/-- Push into a queue without a ring. -/
theorem push_nil (A : Array Value) (T qb qo : Nat) (p : Nat × Nat) (hq : qo + 2 < A.size) (w : World) (hA : w.heap[qb]? = some (.cells (qput A qo (.slice none 0 0) 0 0) T (0, 0))) :
    Calls Yba.prog 7 #[.pointer (some ⟨qb, qo, none⟩), tk p] w fun e w' => e = .returned (.tuple #[]) ∧ Fr (fun k => k = qb) w w' ∧
      ∃ rb R, w.heap.size ≤ rb ∧ R.size = 16 ∧ R[0]? = some (tk p) ∧ w'.heap[rb]? = some (.cells R 1 (0, 0)) ∧ w'.heap[qb]? = some (.cells (qput A qo (.slice (some ⟨rb, 0, none⟩) 16 16) 0 1) T (0, 0)) := by
  have hlt := lt_of_block hA
  have c0 : w.cell? ⟨qb, qo, none⟩ = some (.slice none 0 0) := (cell_of hA qo).trans (qput0 hq)
  have c2 : w.cell? ⟨qb, qo + 2, none⟩ = some (.int .i64 0) := (cell_of hA (qo + 2)).trans (qput2 hq)
  have RES := hid (resize_nil A T qb qo hq w.drew hA)
  obtain ⟨N, hN⟩ : ∃ N, w.heap.size = N := ⟨_, rfl⟩
  clear hA
  simp only [tk] at *
  go_enter Yba.func7, Yba.ntmps7
  go_wp2
  go_region
  go_wp2_with fail
  refine Calls.mono RES.out ?_
  rintro e w1 ⟨rfl, hfr, R, hR, hB, hA⟩
  have s1 : w.heap.size ≤ w1.heap.size := hfr.size
  have hB' : w1.heap[N]? = some (.cells R 1 (0, 0)) := by rw [← hN]; exact hB
  have hA' : w1.heap[qb]? = some (.cells (qput A qo (.slice (some ⟨N, 0, none⟩) 16 16) 0 0) T (0, 0)) := by rw [← hN]; exact hA
  clear hB hA
  have d0 : w1.cell? ⟨qb, qo, none⟩ = some (.slice (some ⟨N, 0, none⟩) 16 16) := (cell_of hA' qo).trans (qput0 hq)
  have d1 : w1.cell? ⟨qb, qo + 1, none⟩ = some (.int .i64 0) := (cell_of hA' (qo + 1)).trans (qput1 hq)
  have d2 : w1.cell? ⟨qb, qo + 2, none⟩ = some (.int .i64 0) := (cell_of hA' (qo + 2)).trans (qput2 hq)
  obtain ⟨x, hx⟩ : ∃ x, R[0]? = some x := ⟨_, Array.getElem?_eq_getElem (by omega)⟩
  have cr : w1.cell? ⟨N, 0, none⟩ = some x := (cell_of hB' 0).trans hx
  have fr := free_of hB' 0
  obtain ⟨W, hW⟩ : ∃ W, w1.setCell ⟨N, 0, none⟩ (tk p) = W := ⟨_, rfl⟩
  have kA : W.heap[qb]? = some (.cells (qput A qo (.slice (some ⟨N, 0, none⟩) 16 16) 0 0) T (0, 0)) := by rw [← hW]; exact (Below.heap_setCell _ _ _ _ (by simp; omega)).trans hA'
  have kB : W.heap[N]? = some (.cells (R.setIfInBounds 0 (tk p)) 1 (0, 0)) := by rw [← hW]; exact heap_setCell_same _ _ _ _ _ _ hB'
  have j2 : W.cell? ⟨qb, qo + 2, none⟩ = some (.int .i64 0) := (cell_of kA (qo + 2)).trans (qput2 hq)
  have i2 := free_of kA (qo + 2)
  have g1 := heap_setCell_same W qb (qo + 2) _ T (.int .i64 1) kA
  rw [qset2] at g1
  have g2 : (W.setCell ⟨qb, qo + 2, none⟩ (.int .i64 1)).heap[N]? = some (.cells (R.setIfInBounds 0 (tk p)) 1 (0, 0)) := (Below.heap_setCell _ _ _ _ (by simp; omega)).trans kB
  have hfr' : Fr (fun k => k = qb) w w1 := ⟨hfr.os, hfr.tape, hfr.output, hfr.size, hfr.block⟩
  have fr0 : Fr (fun k => k = qb) w W := hW ▸ hfr'.setCell (p := ⟨N, 0, none⟩) (.inr (Nat.le_of_eq hN)) _
  have FR := hid (fr0.setCell (p := ⟨qb, qo + 2, none⟩) (.inl rfl) (.int .i64 1))
  have G1 := hid g1
  have G2 := hid g2
  have gz : (R.setIfInBounds 0 (tk p))[0]? = some (tk p) := Array.getElem?_setIfInBounds_self_of_lt (by omega)
  have GZ := hid gz
  have GS : Hid ((R.setIfInBounds 0 (tk p)).size = 16) := by show _ = 16; simp [hR]
  have m0 : bits .and .i64 0 15 = 0 := mask16 0 (by omega)
  clear kA kB g1 g2 fr0 hA' hB' hfr hfr' gz RES hR hx
  simp only [tk] at *
  go_wp2
  go_region
  go_wp2
  go_end0
  exact ⟨rfl, FR.out.drew, N, _, Nat.le_of_eq hN, GS.out, GZ.out, G2.out, G1.out⟩
set_option maxRecDepth 100000 in
set_option maxHeartbeats 1000000 in
/-- Push into a full ring of 16, head at 0. -/
theorem push_full (A : Array Value) (T qb qo rb0 : Nat) (R0 : Array Value) (xs : List Value) (p : Nat × Nat) (hq : qo + 2 < A.size) (hR0 : R0.size = 16) (hxl : xs.length = 16) (h1 : ∀ v ∈ xs, v.oneCell' = true) (hxs : ∀ i, i < 16 → R0[0 + i]? = xs[i]?) (w : World) (hA : w.heap[qb]? = some (.cells (qput A qo (.slice (some ⟨rb0, 0, none⟩) 16 16) 0 16) T (0, 0))) (hB0 : w.heap[rb0]? = some (.cells R0 1 (0, 0))) (hne0 : rb0 ≠ qb) :
    Calls Yba.prog 7 #[.pointer (some ⟨qb, qo, none⟩), tk p] w fun e w' => e = .returned (.tuple #[]) ∧ Fr (fun k => k = qb) w w' ∧
      ∃ rb R, w.heap.size ≤ rb ∧ R.size = 32 ∧ (∀ i, i < 16 → R[i]? = xs[i]?) ∧ R[16]? = some (tk p) ∧ w'.heap[rb]? = some (.cells R 1 (0, 0)) ∧ w'.heap[qb]? = some (.cells (qput A qo (.slice (some ⟨rb, 0, none⟩) 32 32) 0 17) T (0, 0)) := by
  have hlt := lt_of_block hA
  have c0 : w.cell? ⟨qb, qo, none⟩ = some (.slice (some ⟨rb0, 0, none⟩) 16 16) := (cell_of hA qo).trans (qput0 hq)
  have c2 : w.cell? ⟨qb, qo + 2, none⟩ = some (.int .i64 16) := (cell_of hA (qo + 2)).trans (qput2 hq)
  have RES := hid (resize_full A T qb qo rb0 16 32 0 16 R0 xs hq (by omega) (by omega) hR0 hxl (by omega) (by omega) (by omega) h1 hxs w.drew hA hB0 hne0)
  obtain ⟨N, hN⟩ : ∃ N, w.heap.size = N := ⟨_, rfl⟩
  clear hA hB0 hxs h1
  simp only [tk] at *
  go_enter Yba.func7, Yba.ntmps7
  go_wp2
  go_region
  go_wp2_with fail
  refine Calls.mono RES.out ?_
  rintro e w1 ⟨rfl, hfr, R, hR, hRx, hB, hA⟩
  have s1 : w.heap.size ≤ w1.heap.size := hfr.size
  have hB' : w1.heap[N]? = some (.cells R 1 (0, 0)) := by rw [← hN]; exact hB
  have hA' : w1.heap[qb]? = some (.cells (qput A qo (.slice (some ⟨N, 0, none⟩) 32 32) 0 16) T (0, 0)) := by rw [← hN]; exact hA
  clear hB hA
  have d0 : w1.cell? ⟨qb, qo, none⟩ = some (.slice (some ⟨N, 0, none⟩) 32 32) := (cell_of hA' qo).trans (qput0 hq)
  have d1 : w1.cell? ⟨qb, qo + 1, none⟩ = some (.int .i64 0) := (cell_of hA' (qo + 1)).trans (qput1 hq)
  have d2 : w1.cell? ⟨qb, qo + 2, none⟩ = some (.int .i64 16) := (cell_of hA' (qo + 2)).trans (qput2 hq)
  obtain ⟨x, hx⟩ : ∃ x, R[16]? = some x := ⟨_, Array.getElem?_eq_getElem (by omega)⟩
  have cr : w1.cell? ⟨N, 16, none⟩ = some x := (cell_of hB' 16).trans hx
  have fr := free_of hB' 16
  obtain ⟨W, hW⟩ : ∃ W, w1.setCell ⟨N, 16, none⟩ (tk p) = W := ⟨_, rfl⟩
  have kA : W.heap[qb]? = some (.cells (qput A qo (.slice (some ⟨N, 0, none⟩) 32 32) 0 16) T (0, 0)) := by rw [← hW]; exact (Below.heap_setCell _ _ _ _ (by simp; omega)).trans hA'
  have kB : W.heap[N]? = some (.cells (R.setIfInBounds 16 (tk p)) 1 (0, 0)) := by rw [← hW]; exact heap_setCell_same _ _ _ _ _ _ hB'
  have j2 : W.cell? ⟨qb, qo + 2, none⟩ = some (.int .i64 16) := (cell_of kA (qo + 2)).trans (qput2 hq)
  have i2 := free_of kA (qo + 2)
  have g1 := heap_setCell_same W qb (qo + 2) _ T (.int .i64 17) kA
  rw [qset2] at g1
  have g2 : (W.setCell ⟨qb, qo + 2, none⟩ (.int .i64 17)).heap[N]? = some (.cells (R.setIfInBounds 16 (tk p)) 1 (0, 0)) := (Below.heap_setCell _ _ _ _ (by simp; omega)).trans kB
  have hfr' : Fr (fun k => k = qb) w w1 := ⟨hfr.os, hfr.tape, hfr.output, hfr.size, hfr.block⟩
  have fr0 : Fr (fun k => k = qb) w W := hW ▸ hfr'.setCell (p := ⟨N, 16, none⟩) (.inr (Nat.le_of_eq hN)) _
  have FR := hid (fr0.setCell (p := ⟨qb, qo + 2, none⟩) (.inl rfl) (.int .i64 17))
  have G1 := hid g1
  have G2 := hid g2
  have gz : (R.setIfInBounds 16 (tk p))[16]? = some (tk p) := Array.getElem?_setIfInBounds_self_of_lt (by omega)
  have GZ := hid gz
  have GS : Hid ((R.setIfInBounds 16 (tk p)).size = 32) := by show _ = 32; simp [hR]
  have m0 : bits .and .i64 16 31 = 16 := mask32 16 (by omega)
  have GX := hid (fun i (hi : i < 16) => (Array.getElem?_setIfInBounds_ne (xs := R) (a := tk p) (by omega : 16 ≠ i)).trans (hRx i hi))
  clear hRx
  clear kA kB g1 g2 fr0 hA' hB' hfr hfr' gz RES hR hx
  simp only [tk] at *
  go_wp2
  go_region
  go_wp2
  go_end0
  exact ⟨rfl, FR.out.drew, N, _, Nat.le_of_eq hN, GS.out, GX.out, GZ.out, G2.out, G1.out⟩
end Go.Proofs.Ybulkbjau
