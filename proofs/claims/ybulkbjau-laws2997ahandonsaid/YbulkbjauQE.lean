import Derived.Test.YbulkbjauQD
/-! queue[func()]: Pop. -/
namespace Go.Proofs.Ybulkbjau
open Go.RowKit
set_option linter.unusedVariables false
attribute [local go_sem ↓] Go.wp_at_zero Go.wp_at_succ

/-- The head moves on by one. -/
def nxt (h L : Nat) : Nat := if h + 1 = L then 0 else h + 1
theorem nxt16 (h : Nat) (hh : h < 16) : bits .and .i64 (h + 1 : Int) 15 = (nxt h 16 : Nat) := by
  have q : ∀ m : Fin 16, bits .and .i64 ((m.val : Int) + 1) 15 = (nxt m.val 16 : Nat) := by decide
  exact q ⟨h, hh⟩
theorem nxt32 (h : Nat) (hh : h < 32) : bits .and .i64 (h + 1 : Int) 31 = (nxt h 32 : Nat) := by
  have q : ∀ m : Fin 32, bits .and .i64 ((m.val : Int) + 1) 31 = (nxt m.val 32 : Nat) := by decide
  exact q ⟨h, hh⟩

set_option maxRecDepth 100000 in
set_option maxHeartbeats 2000000 in
/-- Pop from a ring of 16. -/
theorem pop16 (A : Array Value) (T qb qo rb h n : Nat) (R : Array Value) (p : Nat × Nat) (hq : qo + 2 < A.size) (hR : R.size = 16) (hn : h + (n + 1) ≤ 16) (hp : R[h]? = some (tk p))
    (w : World) (hA : w.heap[qb]? = some (.cells (qput A qo (.slice (some ⟨rb, 0, none⟩) 16 16) h (n + 1)) T (0, 0))) (hB : w.heap[rb]? = some (.cells R 1 (0, 0))) (hne : rb ≠ qb) :
    Calls Yba.prog 12 #[.pointer (some ⟨qb, qo, none⟩)] w fun e w' => e = .returned (.tuple #[tk p, .bool true]) ∧ Fr (fun k => k = qb ∨ k = rb) w w' ∧
      w'.heap[rb]? = some (.cells (R.setIfInBounds h .nilFunc) 1 (0, 0)) ∧ w'.heap[qb]? = some (.cells (qput A qo (.slice (some ⟨rb, 0, none⟩) 16 16) (nxt h 16 : Nat) n) T (0, 0)) := by
  have c0 : w.cell? ⟨qb, qo, none⟩ = some (.slice (some ⟨rb, 0, none⟩) 16 16) := (cell_of hA qo).trans (qput0 hq)
  have c1 : w.cell? ⟨qb, qo + 1, none⟩ = some (.int .i64 h) := (cell_of hA (qo + 1)).trans (qput1 hq)
  have c2 : w.cell? ⟨qb, qo + 2, none⟩ = some (.int .i64 (n + 1)) := (cell_of hA (qo + 2)).trans (qput2 hq)
  have cr : w.cell? ⟨rb, h, none⟩ = some (tk p) := (cell_of hB h).trans hp
  have fr := free_of hB h
  obtain ⟨W1, hW1⟩ : ∃ W, w.setCell ⟨rb, h, none⟩ .nilFunc = W := ⟨_, rfl⟩
  have kA : W1.heap[qb]? = some (.cells (qput A qo (.slice (some ⟨rb, 0, none⟩) 16 16) h (n + 1)) T (0, 0)) := by rw [← hW1]; exact (Below.heap_setCell _ _ _ _ (by simp; omega)).trans hA
  have kB : W1.heap[rb]? = some (.cells (R.setIfInBounds h .nilFunc) 1 (0, 0)) := by rw [← hW1]; exact heap_setCell_same _ _ _ _ _ _ hB
  have d0 : W1.cell? ⟨qb, qo, none⟩ = some (.slice (some ⟨rb, 0, none⟩) 16 16) := (cell_of kA qo).trans (qput0 hq)
  have d1 : W1.cell? ⟨qb, qo + 1, none⟩ = some (.int .i64 h) := (cell_of kA (qo + 1)).trans (qput1 hq)
  have i1 := free_of kA (qo + 1)
  obtain ⟨W2, hW2⟩ : ∃ W, W1.setCell ⟨qb, qo + 1, none⟩ (.int .i64 (nxt h 16 : Nat)) = W := ⟨_, rfl⟩
  have lA : W2.heap[qb]? = some (.cells (qput A qo (.slice (some ⟨rb, 0, none⟩) 16 16) (nxt h 16 : Nat) (n + 1)) T (0, 0)) := by
    have := heap_setCell_same W1 qb (qo + 1) _ T (.int .i64 (nxt h 16 : Nat)) kA
    rw [qset1, hW2] at this; exact this
  have lB : W2.heap[rb]? = some (.cells (R.setIfInBounds h .nilFunc) 1 (0, 0)) := by rw [← hW2]; exact (Below.heap_setCell _ _ _ _ (by simp; omega)).trans kB
  have j2 : W2.cell? ⟨qb, qo + 2, none⟩ = some (.int .i64 (n + 1)) := (cell_of lA (qo + 2)).trans (qput2 hq)
  have i2 := free_of lA (qo + 2)
  obtain ⟨W3, hW3⟩ : ∃ W, W2.setCell ⟨qb, qo + 2, none⟩ (.int .i64 n) = W := ⟨_, rfl⟩
  have mA : W3.heap[qb]? = some (.cells (qput A qo (.slice (some ⟨rb, 0, none⟩) 16 16) (nxt h 16 : Nat) n) T (0, 0)) := by
    have := heap_setCell_same W2 qb (qo + 2) _ T (.int .i64 n) lA
    rw [qset2, hW3] at this; exact this
  have mB : W3.heap[rb]? = some (.cells (R.setIfInBounds h .nilFunc) 1 (0, 0)) := by rw [← hW3]; exact (Below.heap_setCell _ _ _ _ (by simp; omega)).trans lB
  have k0 : W3.cell? ⟨qb, qo, none⟩ = some (.slice (some ⟨rb, 0, none⟩) 16 16) := (cell_of mA qo).trans (qput0 hq)
  have k2 : W3.cell? ⟨qb, qo + 2, none⟩ = some (.int .i64 n) := (cell_of mA (qo + 2)).trans (qput2 hq)
  have f1 : Fr (fun k => k = qb ∨ k = rb) w W1 := hW1 ▸ (Fr.refl _ w).setCell (p := ⟨rb, h, none⟩) (.inl (.inr rfl)) _
  have f2 : Fr (fun k => k = qb ∨ k = rb) w W2 := hW2 ▸ f1.setCell (p := ⟨qb, qo + 1, none⟩) (.inl (.inl rfl)) _
  have FR : Hid (Fr (fun k => k = qb ∨ k = rb) w W3) := hW3 ▸ f2.setCell (p := ⟨qb, qo + 2, none⟩) (.inl (.inl rfl)) _
  have GA := hid mA
  have GB := hid mB
  have t0 : ((n : Int) + 1 == 0) = false := by simp; omega
  have t1 := nxt16 h (by omega)
  have t2 : (n : Int) + 1 - 1 = n := by omega
  have t3 : h < 16 := by omega
  clear hA hB kA kB lA lB mA mB f1 f2 hp hR
  simp only [tk] at *
  go_enter Yba.func12, Yba.ntmps12
  go_wp2
  go_region
  go_wp2
  go_region
  go_wp2
  go_region
  go_wp2
  go_quiet (fail)
  go_wp2
  go_ret2
  exact ⟨rfl, ⟨FR.out.os, FR.out.tape, FR.out.output, FR.out.size, FR.out.block⟩, GB.out, GA.out⟩
set_option maxRecDepth 100000 in
set_option maxHeartbeats 2000000 in
/-- Pop from a ring of 32 that stays. -/
theorem pop32 (A : Array Value) (T qb qo rb h n : Nat) (R : Array Value) (p : Nat × Nat) (hq : qo + 2 < A.size) (hR : R.size = 32) (hn : h + (n + 1) ≤ 32) (hn8 : 8 < n) (hp : R[h]? = some (tk p))
    (w : World) (hA : w.heap[qb]? = some (.cells (qput A qo (.slice (some ⟨rb, 0, none⟩) 32 32) h (n + 1)) T (0, 0))) (hB : w.heap[rb]? = some (.cells R 1 (0, 0))) (hne : rb ≠ qb) :
    Calls Yba.prog 12 #[.pointer (some ⟨qb, qo, none⟩)] w fun e w' => e = .returned (.tuple #[tk p, .bool true]) ∧ Fr (fun k => k = qb ∨ k = rb) w w' ∧
      w'.heap[rb]? = some (.cells (R.setIfInBounds h .nilFunc) 1 (0, 0)) ∧ w'.heap[qb]? = some (.cells (qput A qo (.slice (some ⟨rb, 0, none⟩) 32 32) (nxt h 32 : Nat) n) T (0, 0)) := by
  have c0 : w.cell? ⟨qb, qo, none⟩ = some (.slice (some ⟨rb, 0, none⟩) 32 32) := (cell_of hA qo).trans (qput0 hq)
  have c1 : w.cell? ⟨qb, qo + 1, none⟩ = some (.int .i64 h) := (cell_of hA (qo + 1)).trans (qput1 hq)
  have c2 : w.cell? ⟨qb, qo + 2, none⟩ = some (.int .i64 (n + 1)) := (cell_of hA (qo + 2)).trans (qput2 hq)
  have cr : w.cell? ⟨rb, h, none⟩ = some (tk p) := (cell_of hB h).trans hp
  have fr := free_of hB h
  obtain ⟨W1, hW1⟩ : ∃ W, w.setCell ⟨rb, h, none⟩ .nilFunc = W := ⟨_, rfl⟩
  have kA : W1.heap[qb]? = some (.cells (qput A qo (.slice (some ⟨rb, 0, none⟩) 32 32) h (n + 1)) T (0, 0)) := by rw [← hW1]; exact (Below.heap_setCell _ _ _ _ (by simp; omega)).trans hA
  have kB : W1.heap[rb]? = some (.cells (R.setIfInBounds h .nilFunc) 1 (0, 0)) := by rw [← hW1]; exact heap_setCell_same _ _ _ _ _ _ hB
  have d0 : W1.cell? ⟨qb, qo, none⟩ = some (.slice (some ⟨rb, 0, none⟩) 32 32) := (cell_of kA qo).trans (qput0 hq)
  have d1 : W1.cell? ⟨qb, qo + 1, none⟩ = some (.int .i64 h) := (cell_of kA (qo + 1)).trans (qput1 hq)
  have i1 := free_of kA (qo + 1)
  obtain ⟨W2, hW2⟩ : ∃ W, W1.setCell ⟨qb, qo + 1, none⟩ (.int .i64 (nxt h 32 : Nat)) = W := ⟨_, rfl⟩
  have lA : W2.heap[qb]? = some (.cells (qput A qo (.slice (some ⟨rb, 0, none⟩) 32 32) (nxt h 32 : Nat) (n + 1)) T (0, 0)) := by
    have := heap_setCell_same W1 qb (qo + 1) _ T (.int .i64 (nxt h 32 : Nat)) kA
    rw [qset1, hW2] at this; exact this
  have lB : W2.heap[rb]? = some (.cells (R.setIfInBounds h .nilFunc) 1 (0, 0)) := by rw [← hW2]; exact (Below.heap_setCell _ _ _ _ (by simp; omega)).trans kB
  have j2 : W2.cell? ⟨qb, qo + 2, none⟩ = some (.int .i64 (n + 1)) := (cell_of lA (qo + 2)).trans (qput2 hq)
  have i2 := free_of lA (qo + 2)
  obtain ⟨W3, hW3⟩ : ∃ W, W2.setCell ⟨qb, qo + 2, none⟩ (.int .i64 n) = W := ⟨_, rfl⟩
  have mA : W3.heap[qb]? = some (.cells (qput A qo (.slice (some ⟨rb, 0, none⟩) 32 32) (nxt h 32 : Nat) n) T (0, 0)) := by
    have := heap_setCell_same W2 qb (qo + 2) _ T (.int .i64 n) lA
    rw [qset2, hW3] at this; exact this
  have mB : W3.heap[rb]? = some (.cells (R.setIfInBounds h .nilFunc) 1 (0, 0)) := by rw [← hW3]; exact (Below.heap_setCell _ _ _ _ (by simp; omega)).trans lB
  have k0 : W3.cell? ⟨qb, qo, none⟩ = some (.slice (some ⟨rb, 0, none⟩) 32 32) := (cell_of mA qo).trans (qput0 hq)
  have k2 : W3.cell? ⟨qb, qo + 2, none⟩ = some (.int .i64 n) := (cell_of mA (qo + 2)).trans (qput2 hq)
  have f1 : Fr (fun k => k = qb ∨ k = rb) w W1 := hW1 ▸ (Fr.refl _ w).setCell (p := ⟨rb, h, none⟩) (.inl (.inr rfl)) _
  have f2 : Fr (fun k => k = qb ∨ k = rb) w W2 := hW2 ▸ f1.setCell (p := ⟨qb, qo + 1, none⟩) (.inl (.inl rfl)) _
  have FR : Hid (Fr (fun k => k = qb ∨ k = rb) w W3) := hW3 ▸ f2.setCell (p := ⟨qb, qo + 2, none⟩) (.inl (.inl rfl)) _
  have GA := hid mA
  have GB := hid mB
  have t0 : ((n : Int) + 1 == 0) = false := by simp; omega
  have t1 := nxt32 h (by omega)
  have t2 : (n : Int) + 1 - 1 = n := by omega
  have t3 : h < 32 := by omega
  have t4 : decide ((n : Int) ≤ 8) = false := by simp; omega
  clear hA hB kA kB lA lB mA mB f1 f2 hp hR
  simp only [tk] at *
  go_enter Yba.func12, Yba.ntmps12
  go_wp2
  go_region
  go_wp2
  go_region
  go_wp2
  go_region
  go_wp2
  go_quiet (fail)
  go_wp2
  go_ret2
  exact ⟨rfl, ⟨FR.out.os, FR.out.tape, FR.out.output, FR.out.size, FR.out.block⟩, GB.out, GA.out⟩

set_option maxRecDepth 100000 in
set_option maxHeartbeats 2000000 in
/-- Pop from a ring of 32 that shrinks. -/
theorem pop32s (A : Array Value) (T qb qo rb h : Nat) (R : Array Value) (xs : List Value) (p : Nat × Nat) (hq : qo + 2 < A.size) (hR : R.size = 32) (hn : h + 9 ≤ 32) (hp : R[h]? = some (tk p)) (hxl : xs.length = 8) (h1 : ∀ v ∈ xs, v.oneCell' = true) (hxs : ∀ i, i < 8 → R[h + 1 + i]? = xs[i]?)
    (w : World) (hA : w.heap[qb]? = some (.cells (qput A qo (.slice (some ⟨rb, 0, none⟩) 32 32) h 9) T (0, 0))) (hB : w.heap[rb]? = some (.cells R 1 (0, 0))) (hne : rb ≠ qb) :
    Calls Yba.prog 12 #[.pointer (some ⟨qb, qo, none⟩)] w fun e w' => e = .returned (.tuple #[tk p, .bool true]) ∧ Fr (fun k => k = qb ∨ k = rb) w w' ∧
      ∃ rb' R', w.heap.size ≤ rb' ∧ R'.size = 16 ∧ (∀ i, i < 8 → R'[i]? = xs[i]?) ∧ w'.heap[rb']? = some (.cells R' 1 (0, 0)) ∧ w'.heap[qb]? = some (.cells (qput A qo (.slice (some ⟨rb', 0, none⟩) 16 16) 0 8) T (0, 0)) := by
  have c0 : w.cell? ⟨qb, qo, none⟩ = some (.slice (some ⟨rb, 0, none⟩) 32 32) := (cell_of hA qo).trans (qput0 hq)
  have c1 : w.cell? ⟨qb, qo + 1, none⟩ = some (.int .i64 h) := (cell_of hA (qo + 1)).trans (qput1 hq)
  have c2 : w.cell? ⟨qb, qo + 2, none⟩ = some (.int .i64 9) := (cell_of hA (qo + 2)).trans (qput2 hq)
  have cr : w.cell? ⟨rb, h, none⟩ = some (tk p) := (cell_of hB h).trans hp
  have fr := free_of hB h
  obtain ⟨W1, hW1⟩ : ∃ W, w.setCell ⟨rb, h, none⟩ .nilFunc = W := ⟨_, rfl⟩
  have kA : W1.heap[qb]? = some (.cells (qput A qo (.slice (some ⟨rb, 0, none⟩) 32 32) h 9) T (0, 0)) := by rw [← hW1]; exact (Below.heap_setCell _ _ _ _ (by simp; omega)).trans hA
  have kB : W1.heap[rb]? = some (.cells (R.setIfInBounds h .nilFunc) 1 (0, 0)) := by rw [← hW1]; exact heap_setCell_same _ _ _ _ _ _ hB
  have d0 : W1.cell? ⟨qb, qo, none⟩ = some (.slice (some ⟨rb, 0, none⟩) 32 32) := (cell_of kA qo).trans (qput0 hq)
  have d1 : W1.cell? ⟨qb, qo + 1, none⟩ = some (.int .i64 h) := (cell_of kA (qo + 1)).trans (qput1 hq)
  have i1 := free_of kA (qo + 1)
  obtain ⟨W2, hW2⟩ : ∃ W, W1.setCell ⟨qb, qo + 1, none⟩ (.int .i64 (nxt h 32 : Nat)) = W := ⟨_, rfl⟩
  have lA : W2.heap[qb]? = some (.cells (qput A qo (.slice (some ⟨rb, 0, none⟩) 32 32) (nxt h 32 : Nat) 9) T (0, 0)) := by
    have := heap_setCell_same W1 qb (qo + 1) _ T (.int .i64 (nxt h 32 : Nat)) kA
    rw [qset1, hW2] at this; exact this
  have lB : W2.heap[rb]? = some (.cells (R.setIfInBounds h .nilFunc) 1 (0, 0)) := by rw [← hW2]; exact (Below.heap_setCell _ _ _ _ (by simp; omega)).trans kB
  have j2 : W2.cell? ⟨qb, qo + 2, none⟩ = some (.int .i64 9) := (cell_of lA (qo + 2)).trans (qput2 hq)
  have i2 := free_of lA (qo + 2)
  obtain ⟨W3, hW3⟩ : ∃ W, W2.setCell ⟨qb, qo + 2, none⟩ (.int .i64 8) = W := ⟨_, rfl⟩
  have mA : W3.heap[qb]? = some (.cells (qput A qo (.slice (some ⟨rb, 0, none⟩) 32 32) (nxt h 32 : Nat) 8) T (0, 0)) := by
    have := heap_setCell_same W2 qb (qo + 2) _ T (.int .i64 8) lA
    rw [qset2, hW3] at this; exact this
  have mB : W3.heap[rb]? = some (.cells (R.setIfInBounds h .nilFunc) 1 (0, 0)) := by rw [← hW3]; exact (Below.heap_setCell _ _ _ _ (by simp; omega)).trans lB
  have k0 : W3.cell? ⟨qb, qo, none⟩ = some (.slice (some ⟨rb, 0, none⟩) 32 32) := (cell_of mA qo).trans (qput0 hq)
  have k2 : W3.cell? ⟨qb, qo + 2, none⟩ = some (.int .i64 8) := (cell_of mA (qo + 2)).trans (qput2 hq)
  have f1 : Fr (fun k => k = qb ∨ k = rb) w W1 := hW1 ▸ (Fr.refl _ w).setCell (p := ⟨rb, h, none⟩) (.inl (.inr rfl)) _
  have f2 : Fr (fun k => k = qb ∨ k = rb) w W2 := hW2 ▸ f1.setCell (p := ⟨qb, qo + 1, none⟩) (.inl (.inl rfl)) _
  have FR : Hid (Fr (fun k => k = qb ∨ k = rb) w W3) := hW3 ▸ f2.setCell (p := ⟨qb, qo + 2, none⟩) (.inl (.inl rfl)) _
  have hnx : nxt h 32 = h + 1 := by unfold nxt; rw [if_neg (by omega)]
  have RES := hid (fun (W : World) (a : W.heap[qb]? = some (.cells (qput A qo (.slice (some ⟨rb, 0, none⟩) 32 32) (nxt h 32 : Nat) 8) T (0, 0))) (b : W.heap[rb]? = some (.cells (R.setIfInBounds h .nilFunc) 1 (0, 0))) => resize_full A T qb qo rb 32 16 (nxt h 32) 8 (R.setIfInBounds h .nilFunc) xs hq (by omega) (by omega) (by simpa using hR) hxl (by omega) (by omega) (by omega) h1 (fun i hi => by rw [hnx, Array.getElem?_setIfInBounds_ne (by omega)]; exact hxs i hi) W a b hne)
  have GA := hid mA
  have GB := hid mB
  have hsz : w.heap.size ≤ W3.heap.size := FR.out.size
  have t1 := nxt32 h (by omega)
  have t3 : h < 32 := by omega
  clear hA hB kA kB lA lB mA mB f1 f2 hp hR h1 hxs hnx
  simp only [tk] at *
  go_enter Yba.func12, Yba.ntmps12
  go_wp2
  go_region
  go_wp2
  go_region
  go_wp2
  go_region
  go_wp2
  go_quiet (fail)
  go_wp2_with fail
  refine Calls.mono (RES.out _ GA.out GB.out) ?_
  rintro e w4 ⟨rfl, hf, R', hR', hx', hB', hA'⟩
  have FIN : Hid (Fr (fun k => k = qb ∨ k = rb) w w4) := FR.out.trans ⟨hf.os, hf.tape, hf.output, hf.size, fun k hk hs => hf.block k hk (fun q => hs (.inl q))⟩
  have B' := hid hB'
  have A' := hid hA'
  have X' := hid hx'
  clear hf hx' hB' hA' RES GA GB FR
  go_wp2
  go_ret2
  exact ⟨rfl, FIN.out, _, R', hsz, hR', X'.out, B'.out, A'.out⟩

end Go.Proofs.Ybulkbjau
