import Derived.Test.YbulkbjauQA
/-! queue[func()]: resize of a ring that holds values. -/
namespace Go.Proofs.Ybulkbjau
open Go.RowKit
set_option linter.unusedVariables false
attribute [local go_sem ↓] Go.wp_at_zero Go.wp_at_succ

theorem add_eq (b o j : Nat) : (⟨b, o, none⟩ : Addr).add j = ⟨b, o + j, none⟩ := by unfold Addr.add; split <;> simp_all

set_option maxRecDepth 100000 in
set_option maxHeartbeats 1000000 in
theorem resize_full (A : Array Value) (T qb qo rb L S h n : Nat) (R : Array Value) (xs : List Value) (hq : qo + 2 < A.size) (hL : L ≤ 32) (hS : S ≤ 32) (hR : R.size = L) (hx : xs.length = n) (hn : h + n ≤ L) (hnS : n < S) (hn0 : 0 < n) (h1 : ∀ v ∈ xs, v.oneCell' = true)
    (hxs : ∀ i, i < n → R[h + i]? = xs[i]?) (w : World) (hA : w.heap[qb]? = some (.cells (qput A qo (.slice (some ⟨rb, 0, none⟩) L L) h n) T (0, 0))) (hB : w.heap[rb]? = some (.cells R 1 (0, 0))) (hne : rb ≠ qb) :
    Calls Yba.prog 18 #[.pointer (some ⟨qb, qo, none⟩), .int .i64 S] w fun e w' => e = .returned (.tuple #[]) ∧ Fr (fun k => k = qb) w w' ∧
      ∃ R' : Array Value, R'.size = S ∧ (∀ i, i < n → R'[i]? = xs[i]?) ∧ w'.heap[w.heap.size]? = some (.cells R' 1 (0, 0)) ∧ w'.heap[qb]? = some (.cells (qput A qo (.slice (some ⟨w.heap.size, 0, none⟩) S S) 0 n) T (0, 0)) := by
  have hcp : ∀ (w : World) (d a : Option Addr) (dl dc sl sc : Nat), Nat.min sl dl = 0 → (Builtin.copy_ #[37, 37] 3 #[.slice d dl dc, .slice a sl sc]).run Yba.prog w = .ok (goInt 0) w := fun w d a dl dc sl sc h => run_copy_none w 37 37 3 1 d a dl dc sl sc Yba.underlying37 Yba.size1 h
  have hlt := lt_of_block hA
  have hlr := lt_of_block hB
  obtain ⟨Z, hZ, hmk⟩ := mk37 S (by omega)
  have hmk' := hmk w
  obtain ⟨W, hW⟩ : ∃ W, w.alloc (.cells Z 1) = W := ⟨_, rfl⟩
  rw [hW] at hmk'
  have hAW : W.heap[qb]? = some (.cells (qput A qo (.slice (some ⟨rb, 0, none⟩) L L) h n) T (0, 0)) := by rw [← hW]; exact (Below.heap_alloc w _ _ hlt).trans hA
  have hBW : W.heap[rb]? = some (.cells R 1 (0, 0)) := by rw [← hW]; exact (Below.heap_alloc w _ _ hlr).trans hB
  have hWb : W.heap[w.heap.size]? = some (.cells Z 1 (0, 0)) := by rw [← hW]; exact Go.heap_alloc_new _ _
  have c0 : W.cell? ⟨qb, qo, none⟩ = some (.slice (some ⟨rb, 0, none⟩) L L) := (cell_of hAW qo).trans (qput0 hq)
  have c1 : W.cell? ⟨qb, qo + 1, none⟩ = some (.int .i64 h) := (cell_of hAW (qo + 1)).trans (qput1 hq)
  have c2 : W.cell? ⟨qb, qo + 2, none⟩ = some (.int .i64 n) := (cell_of hAW (qo + 2)).trans (qput2 hq)
  have f0 := free_of hAW qo
  have f1 := free_of hAW (qo + 1)
  have e1 : h + n - h = n := by omega
  have e2 : ¬ L = h := by omega
  have e3 : ¬ S = n := by omega
  obtain ⟨R', hR'⟩ : ∃ R', (Z.toList.take 0 ++ xs ++ Z.toList.drop (0 + xs.length)).toArray = R' := ⟨_, rfl⟩
  obtain ⟨W1, hW1⟩ : ∃ W1, W.drew.setRow w.heap.size R' = W1 := ⟨_, rfl⟩
  have hcopy : (Builtin.copy_ #[37, 37] 3 #[.slice (some ⟨w.heap.size, 0, none⟩) S S, .slice (some ⟨rb, h, none⟩) n (L - h)]).run Yba.prog W.drew = .ok (.int .i64 n) W1 := by
    have := run_copy_row (P := Yba.prog) W.drew 37 37 3 1 w.heap.size 0 S S ⟨rb, h, none⟩ n (L - h) Z 1 xs Yba.underlying37 Yba.size1 hWb (by rw [hx]; exact (Nat.min_eq_left (Nat.le_of_lt hnS)).symm)
      (fun j v hj => by
        have hjn : j < n := by rw [← hx]; exact (List.getElem?_eq_some_iff.mp hj).1
        rw [World.cell?_drew, add_eq]
        exact (cell_of hBW (h + j)).trans ((hxs j hjn).trans hj)) (by omega) h1
    rw [hR', hW1, hx] at this
    exact this
  have sR' : R'.size = S := by rw [← hR']; simp [hx, hZ]; omega
  have gR' : ∀ i, i < n → R'[i]? = xs[i]? := by
    intro i hi
    rw [← hR']
    simp [List.getElem?_append, hx, hi]
  have kA : W1.heap[qb]? = some (.cells (qput A qo (.slice (some ⟨rb, 0, none⟩) L L) h n) T (0, 0)) := by rw [← hW1]; exact (setRow_other _ _ _ _ (by omega)).trans hAW
  have kN : W1.heap[w.heap.size]? = some (.cells R' 1 (0, 0)) := by rw [← hW1]; exact setRow_heap W.drew _ Z _ _ _ hWb
  have d0 : W1.cell? ⟨qb, qo, none⟩ = some (.slice (some ⟨rb, 0, none⟩) L L) := (cell_of kA qo).trans (qput0 hq)
  have d1 : W1.cell? ⟨qb, qo + 1, none⟩ = some (.int .i64 h) := (cell_of kA (qo + 1)).trans (qput1 hq)
  have d2 : W1.cell? ⟨qb, qo + 2, none⟩ = some (.int .i64 n) := (cell_of kA (qo + 2)).trans (qput2 hq)
  have i0 := free_of kA qo
  have i1 := free_of kA (qo + 1)
  have g1 := heap_setCell_same W1 qb qo _ T (.slice (some ⟨w.heap.size, 0, none⟩) S S) kA
  rw [qset0] at g1
  have g2 := heap_setCell_same _ qb (qo + 1) _ T (.int .i64 0) g1
  rw [qset1] at g2
  have g3 : ((W1.setCell ⟨qb, qo, none⟩ (.slice (some ⟨w.heap.size, 0, none⟩) S S)).setCell ⟨qb, qo + 1, none⟩ (.int .i64 0)).heap[w.heap.size]? = some (.cells R' 1 (0, 0)) := by
    rw [Below.heap_setCell _ _ _ _ (by simp; omega), Below.heap_setCell _ _ _ _ (by simp; omega)]; exact kN
  have fr0 : Fr (fun k => k = qb) w W := hW ▸ (Fr.refl _ w).alloc _
  have fr1 : Fr (fun k => k = qb) w W1 := by
    rw [← hW1]
    exact ⟨fr0.os, fr0.tape, fr0.output, by simp; exact fr0.size, fun k hk hs => (setRow_other _ _ _ _ (by omega)).trans (fr0.block k hk hs)⟩
  have FR := hid ((fr1.setCell (p := ⟨qb, qo, none⟩) (.inl rfl) (.slice (some ⟨w.heap.size, 0, none⟩) S S)).setCell (p := ⟨qb, qo + 1, none⟩) (.inl rfl) (.int .i64 0))
  have G2 := hid g2
  have G3 := hid g3
  have GR := hid gR'
  clear hmk hA hAW g1 g2 g3 fr0 fr1 hWb hBW kA kN hxs gR' hR' h1
  go_enter Yba.func18, Yba.ntmps18
  go_wp2
  go_region
  go_wp2
  go_region
  go_wp2
  go_end0
  exact ⟨rfl, FR.out.drew, R', sR', GR.out, G3.out, G2.out⟩
end Go.Proofs.Ybulkbjau
