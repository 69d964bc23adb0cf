import Derived.Test.YbulkbiwmThT
/-! LawS2989AThought: (*client).thought, where nothing waits. -/
namespace Go.Proofs.Ybulkbiwm.Th
open Go.RowKit
set_option linter.unusedVariables false
attribute [local go_sem ↓] Go.wp_at_zero Go.wp_at_succ

set_option maxRecDepth 100000 in
set_option maxHeartbeats 2000000 in
theorem thought_b1 (q : Cf) (ok : q.Ok) (at' : Nat → Int) (w : World) (fr : Nat) (nw wt cs : Int) (s : St q w fr nw wt cs) (pl : Pl q at' w) (hfr : fr ≤ q.n) (h0 : wt ≤ 0) (h : q.rd ≤ nw) :
    Calls Yba.prog 8 #[.pointer (some ⟨q.cl, 0, none⟩)] w fun e w' => e = .returned (.bool true) ∧ St q w' fr nw wt cs ∧ Kp q w w' := by
  have okn := ok.n
  have okni := ok.ni
  obtain ⟨c1, c2, c3, c4, c5, c6, c7, c8, c9, c10, c11, c12, c13, c14⟩ := s.cells
  have S : Hid _ := s
  have T := T1.mk1 ok s pl
  have m1 := World.new_ne w _ c2
  have m2 := World.new_ne w _ c3
  obtain ⟨W, hW⟩ : ∃ W, (w.alloc (.cells #[.pointer (some ⟨q.r, 0, none⟩)] 42)).drew = W := ⟨_, rfl⟩
  rw [hW] at T
  have HW : Hid _ := hW
  clear s c1 c4 c5 c6 c7 c8 c9 c10 c11 c12 c13 c14 hW
  go_enter Yba.func8, Yba.ntmps8
  go_wp2
  go_region_held3 (fun w' => w'.cell? ⟨q.cl, 4, none⟩ = some (.pointer (some ⟨q.r, 0, none⟩)) ∧ w'.cell? ⟨q.cl, 5, none⟩ = some (.pointer (some ⟨q.c, 0, none⟩))) (go_keep) (fail)
  have hW := HW.out
  clear c2 c3 m1 m2
  rw [hW]
  obtain ⟨X, hX⟩ : ∃ X, w.heap.size = X := ⟨_, rfl⟩
  rw [hX] at T ⊢
  clear hW HW hX
  obtain ⟨ts, tk, tp, tx, tlt, txs⟩ := T
  obtain ⟨c1, c2, c3, c4, c5, c6, c7, c8, c9, c10, c11, c12, c13, c14⟩ := ts.cells
  obtain ⟨f1, f2, f3, f4⟩ := ts.free
  go_wp2
  go_quiet (fail)
  go_wp2
  go_ret
  exact ⟨rfl, ts.drewN _, tk.drewN _⟩

set_option maxRecDepth 100000 in
set_option maxHeartbeats 2000000 in
theorem thought_b2 (q : Cf) (ok : q.Ok) (at' : Nat → Int) (w : World) (fr : Nat) (nw wt cs : Int) (s : St q w fr nw wt cs) (pl : Pl q at' w) (hfr : fr ≤ q.n) (h0 : wt ≤ 0) (h : nw < q.rd) (en : Int) (hen : q.start + q.by' = en) (h2 : en ≤ q.rd) :
    Calls Yba.prog 8 #[.pointer (some ⟨q.cl, 0, none⟩)] w fun e w' => e = .returned (.bool false) ∧ St q w' fr nw wt cs ∧ Kp q w w' := by
  have okn := ok.n
  have okni := ok.ni
  obtain ⟨c1, c2, c3, c4, c5, c6, c7, c8, c9, c10, c11, c12, c13, c14⟩ := s.cells
  have S : Hid _ := s
  have T := T1.mk1 ok s pl
  have m1 := World.new_ne w _ c2
  have m2 := World.new_ne w _ c3
  obtain ⟨W, hW⟩ : ∃ W, (w.alloc (.cells #[.pointer (some ⟨q.r, 0, none⟩)] 42)).drew = W := ⟨_, rfl⟩
  rw [hW] at T
  have HW : Hid _ := hW
  clear s c1 c4 c5 c6 c7 c8 c9 c10 c11 c12 c13 c14 hW
  go_enter Yba.func8, Yba.ntmps8
  go_wp2
  go_region_held3 (fun w' => w'.cell? ⟨q.cl, 4, none⟩ = some (.pointer (some ⟨q.r, 0, none⟩)) ∧ w'.cell? ⟨q.cl, 5, none⟩ = some (.pointer (some ⟨q.c, 0, none⟩))) (go_keep) (fail)
  have hW := HW.out
  clear c2 c3 m1 m2
  rw [hW]
  obtain ⟨X, hX⟩ : ∃ X, w.heap.size = X := ⟨_, rfl⟩
  rw [hX] at T ⊢
  clear hW HW hX
  have T0 : Hid _ := T
  obtain ⟨ts, tk, tp, tx, tlt, txs⟩ := T
  obtain ⟨c1, c2, c3, c4, c5, c6, c7, c8, c9, c10, c11, c12, c13, c14⟩ := ts.cells
  obtain ⟨f1, f2, f3, f4⟩ := ts.free
  go_wp2
  go_quiet (fail)
  have T2 := T1.drewN T0 nq
  obtain ⟨W2, hW2⟩ : ∃ W2, W.drewN nq = W2 := ⟨_, rfl⟩
  rw [hW2] at T2 ⊢
  clear ts tk tp tx tlt txs c1 c2 c3 c4 c5 c6 c7 c8 c9 c10 c11 c12 c13 c14 f1 f2 f3 f4 T0 hW2
  obtain ⟨ts, tk, tp, tx, tlt, txs⟩ := T2
  obtain ⟨c1, c2, c3, c4, c5, c6, c7, c8, c9, c10, c11, c12, c13, c14⟩ := ts.cells
  obtain ⟨f1, f2, f3, f4⟩ := ts.free
  go_wp2
  go_quiet ((go_at_call 14; exact quiet_flip (placeStart_out q.c q.b q.n q.n q.n q.start q.by' en _ (Nat.le_refl _) okn (by omega) ok.sb ok.bb hen (by simp [c14]) (by simp [c13]) (by simp [c12]))))
  go_wp2
  go_ret
  exact ⟨rfl, ts.drewN _, tk.drewN _⟩

end Go.Proofs.Ybulkbiwm.Th
