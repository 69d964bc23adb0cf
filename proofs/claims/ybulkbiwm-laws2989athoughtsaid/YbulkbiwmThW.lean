import Derived.Test.YbulkbiwmThV
import Derived.Deep.DeepCutAuto
/-! LawS2989AThought: (*client).thought, where the wait ends in this cycle. -/
namespace Go.Proofs.Ybulkbiwm.Th
open Go.RowKit
set_option linter.unusedVariables false
attribute [local go_sem ↓] Go.wp_at_zero Go.wp_at_succ

theorem T1.after {q : Cf} (ok : q.Ok) {at' : Nat → Int} {w W w' : World} {X fr fr' : Nat} {nw wt cs cs' : Int} (t : T1 q at' w W X fr nw wt cs) (s : St q w' fr' nw wt cs') (k : Kp q W w') (l : q.cl < X ∧ q.r < X ∧ q.g < X ∧ q.c < X ∧ (q.use = true → q.ca < X ∧ q.st < X)) : T1 q at' w w' X fr' nw wt cs' :=
  ⟨s, t.k.trans k, t.p.kp ok k, by rw [World.cell?_of_block (w := W) (k.block X t.lt (by omega) (by omega) (by omega))]; exact t.x, Nat.lt_of_lt_of_le t.lt k.size, t.xs⟩

theorem T1.step {q : Cf} (ok : q.Ok) {at' : Nat → Int} {w W : World} {X fr : Nat} {nw wt cs : Int} (t : T1 q at' w W X fr nw wt cs) (nw1 : Int) (l : q.cl < X ∧ q.r < X ∧ q.g < X ∧ q.c < X ∧ (q.use = true → q.ca < X ∧ q.st < X)) :
    T1 q at' w ((W.setCell ⟨q.cl, 7, none⟩ (.int .i64 nw1)).setCell ⟨q.r, 10, none⟩ (.int .i64 0)) X fr nw1 0 cs := by
  have K := ((Kp.refl q W).setCell (p := ⟨q.cl, 7, none⟩) (.inl rfl) (.int .i64 nw1)).setCell (p := ⟨q.r, 10, none⟩) (.inr (.inl rfl)) (.int .i64 0)
  refine ⟨(t.s.setNow ok nw1).setWait ok 0, t.k.trans K, t.p.kp ok K, ?_, by simp; exact t.lt, t.xs⟩
  rw [World.cell?_of_block (w := W) (K.block X t.lt (by omega) (by omega) (by omega))]
  exact t.x

set_option maxRecDepth 100000 in
set_option maxHeartbeats 4000000 in
theorem thought_in_b1 (q : Cf) (ok : q.Ok) (at' : Nat → Int) (w : World) (fr k : Nat) (nw cs : Int) (s : St q w fr nw (k : Int) cs) (pl : Pl q at' w) (h0 : 0 < k) (hk : fr + k ≤ q.ni) (cb1 : 0 ≤ cs) (cb2 : cs ≤ 40) (fr1 : Nat) (HFR : Hid (fr + k = fr1)) (cs1 : Int) (HCS : Hid (cs + q.inc = cs1)) (d1 : 0 ≤ cs1) (d2 : cs1 ≤ 50) (nw1 : Int) (hin : fr1 < q.n) (hnw : at' fr1 = nw1) (h : q.rd ≤ nw1) :
    Calls Yba.prog 8 #[.pointer (some ⟨q.cl, 0, none⟩)] w fun e w' => e = .returned (.bool true) ∧ St q w' fr1 nw1 0 cs1 ∧ Kp q w w' := by
  have okn := ok.n
  have okni := ok.ni
  obtain ⟨c1, c2, c3, c4, c5, c6, c7, c8, c9, c10, c11, c12, c13, c14⟩ := s.cells
  have S : Hid _ := s
  have T := T1.mk1 ok s pl
  have m1 := World.new_ne w _ c2
  have m2 := World.new_ne w _ c3
  obtain ⟨W, hW⟩ : ∃ W, (w.alloc (.cells #[.pointer (some ⟨q.r, 0, none⟩)] 42)).drew = W := ⟨_, rfl⟩
  rw [hW] at T
  have HW : Hid _ := hW
  clear s c1 c4 c5 c6 c7 c8 c9 c10 c11 c12 c13 c14 hW
  go_enter Yba.func8, Yba.ntmps8
  go_wp2
  go_region_held3 (fun w' => w'.cell? ⟨q.cl, 4, none⟩ = some (.pointer (some ⟨q.r, 0, none⟩)) ∧ w'.cell? ⟨q.cl, 5, none⟩ = some (.pointer (some ⟨q.c, 0, none⟩))) (go_keep) (fail)
  have hW := HW.out
  clear c2 c3 m1 m2
  rw [hW]
  obtain ⟨X, hX⟩ : ∃ X, w.heap.size = X := ⟨_, rfl⟩
  rw [hX] at T ⊢
  clear hW HW hX
  have hfr : fr1 ≤ q.n := by have := HFR.out; omega
  have HNW : Hid _ := hnw
  clear hnw
  have T0 : Hid _ := T
  obtain ⟨ts, tk, tp, tx, tlt, txs⟩ := T
  obtain ⟨c1, c2, c3, c4, c5, c6, c7, c8, c9, c10, c11, c12, c13, c14⟩ := ts.cells
  obtain ⟨f1, f2, f3, f4⟩ := ts.free
  have LT := T1.lts (at' := at') (W := W) S.out txs
  go_wp2
  go_quiet (fail)
  have TT := T1.drewN T0 nq
  obtain ⟨WA, hWA⟩ : ∃ WA, W.drewN nq = WA := ⟨_, rfl⟩
  rw [hWA] at TT ⊢
  clear ts tk tp tx tlt txs c1 c2 c3 c4 c5 c6 c7 c8 c9 c10 c11 c12 c13 c14 f1 f2 f3 f4
  clear hWA T0
  have T0 : Hid _ := TT
  obtain ⟨ts, tk, tp, tx, tlt, txs⟩ := TT
  obtain ⟨c1, c2, c3, c4, c5, c6, c7, c8, c9, c10, c11, c12, c13, c14⟩ := ts.cells
  obtain ⟨f1, f2, f3, f4⟩ := ts.free
  go_wp2
  go_cut [55] (fun _ wc => T1 q at' w wc X fr1 nw (k : Int) cs1)
  case first =>
    go_region_with (first
      | (go_at_call 13; (try rw [wrap_nat fr k (by omega)]); (try rw [show ((fr : Int) + (k : Int)) = ((fr + k : Nat) : Int) from by omega]); refine (pass_move q ok _ fr (fr + k) nw (k : Int) cs ?_ (by omega) cb1 (by omega)).mono ?_; (first | exact ts.drewN _ | exact ts.drew | exact ts); rintro e w' ⟨rfl, hs, hk⟩))
    all_goals
      go_wp2_with fail
      go_meet
      case rel => exact HFR.out ▸ HCS.out ▸ T1.after ok (T1.drewN T0 1) hs hk LT
  case rest =>
    have T0 : Hid _ := hcut
    obtain ⟨ts, tk, tp, tx, tlt, txs⟩ := hcut
    obtain ⟨c1, c2, c3, c4, c5, c6, c7, c8, c9, c10, c11, c12, c13, c14⟩ := ts.cells
    obtain ⟨f1, f2, f3, f4⟩ := ts.free
    have n1 : ¬ q.cl = X := by omega
    have n2 : ¬ X = q.cl := by omega
    have n3 : ¬ q.r = X := by omega
    have n4 : ¬ X = q.r := by omega
    have hpk := tp fr1 hin
    rw [HNW.out] at hpk
    have HP : Hid _ := hpk
    clear hpk
    go_wp2_with fail
    refine (placeStart_in q.c q.b q.n q.n fr1 nw1 _ hin okn c14 HP.out).mono ?_
    rintro e w' ⟨rfl, rfl⟩
    go_wp2
    have TB := T1.step ok T0.out nw1 LT
    obtain ⟨WB, hWB⟩ : ∃ WB, ((wc.setCell ⟨q.cl, 7, none⟩ (.int .i64 nw1)).setCell ⟨q.r, 10, none⟩ (.int .i64 0)) = WB := ⟨_, rfl⟩
    rw [hWB] at TB ⊢
    clear ts tk tp tx tlt txs c1 c2 c3 c4 c5 c6 c7 c8 c9 c10 c11 c12 c13 c14 f1 f2 f3 f4 T0 hWB n1 n2 n3 n4
    have T0 : Hid _ := TB
    obtain ⟨ts, tk, tp, tx, tlt, txs⟩ := TB
    obtain ⟨c1, c2, c3, c4, c5, c6, c7, c8, c9, c10, c11, c12, c13, c14⟩ := ts.cells
    obtain ⟨f1, f2, f3, f4⟩ := ts.free
    go_quiet (fail)
    go_wp2
    go_ret
    exact ⟨rfl, ts.drewN _, tk.drewN _⟩

set_option maxRecDepth 100000 in
set_option maxHeartbeats 4000000 in
theorem thought_in_b2 (q : Cf) (ok : q.Ok) (at' : Nat → Int) (w : World) (fr k : Nat) (nw cs : Int) (s : St q w fr nw (k : Int) cs) (pl : Pl q at' w) (h0 : 0 < k) (hk : fr + k ≤ q.ni) (cb1 : 0 ≤ cs) (cb2 : cs ≤ 40) (fr1 : Nat) (HFR : Hid (fr + k = fr1)) (cs1 : Int) (HCS : Hid (cs + q.inc = cs1)) (d1 : 0 ≤ cs1) (d2 : cs1 ≤ 50) (nw1 : Int) (hin : fr1 < q.n) (hnw : at' fr1 = nw1) (h : nw1 < q.rd) (en : Int) (hen : q.start + q.by' = en) (h2 : en ≤ q.rd) :
    Calls Yba.prog 8 #[.pointer (some ⟨q.cl, 0, none⟩)] w fun e w' => e = .returned (.bool false) ∧ St q w' fr1 nw1 0 cs1 ∧ Kp q w w' := by
  have okn := ok.n
  have okni := ok.ni
  obtain ⟨c1, c2, c3, c4, c5, c6, c7, c8, c9, c10, c11, c12, c13, c14⟩ := s.cells
  have S : Hid _ := s
  have T := T1.mk1 ok s pl
  have m1 := World.new_ne w _ c2
  have m2 := World.new_ne w _ c3
  obtain ⟨W, hW⟩ : ∃ W, (w.alloc (.cells #[.pointer (some ⟨q.r, 0, none⟩)] 42)).drew = W := ⟨_, rfl⟩
  rw [hW] at T
  have HW : Hid _ := hW
  clear s c1 c4 c5 c6 c7 c8 c9 c10 c11 c12 c13 c14 hW
  go_enter Yba.func8, Yba.ntmps8
  go_wp2
  go_region_held3 (fun w' => w'.cell? ⟨q.cl, 4, none⟩ = some (.pointer (some ⟨q.r, 0, none⟩)) ∧ w'.cell? ⟨q.cl, 5, none⟩ = some (.pointer (some ⟨q.c, 0, none⟩))) (go_keep) (fail)
  have hW := HW.out
  clear c2 c3 m1 m2
  rw [hW]
  obtain ⟨X, hX⟩ : ∃ X, w.heap.size = X := ⟨_, rfl⟩
  rw [hX] at T ⊢
  clear hW HW hX
  have hfr : fr1 ≤ q.n := by have := HFR.out; omega
  have HNW : Hid _ := hnw
  clear hnw
  have T0 : Hid _ := T
  obtain ⟨ts, tk, tp, tx, tlt, txs⟩ := T
  obtain ⟨c1, c2, c3, c4, c5, c6, c7, c8, c9, c10, c11, c12, c13, c14⟩ := ts.cells
  obtain ⟨f1, f2, f3, f4⟩ := ts.free
  have LT := T1.lts (at' := at') (W := W) S.out txs
  go_wp2
  go_quiet (fail)
  have TT := T1.drewN T0 nq
  obtain ⟨WA, hWA⟩ : ∃ WA, W.drewN nq = WA := ⟨_, rfl⟩
  rw [hWA] at TT ⊢
  clear ts tk tp tx tlt txs c1 c2 c3 c4 c5 c6 c7 c8 c9 c10 c11 c12 c13 c14 f1 f2 f3 f4
  clear hWA T0
  have T0 : Hid _ := TT
  obtain ⟨ts, tk, tp, tx, tlt, txs⟩ := TT
  obtain ⟨c1, c2, c3, c4, c5, c6, c7, c8, c9, c10, c11, c12, c13, c14⟩ := ts.cells
  obtain ⟨f1, f2, f3, f4⟩ := ts.free
  go_wp2
  go_cut [55] (fun _ wc => T1 q at' w wc X fr1 nw (k : Int) cs1)
  case first =>
    go_region_with (first
      | (go_at_call 13; (try rw [wrap_nat fr k (by omega)]); (try rw [show ((fr : Int) + (k : Int)) = ((fr + k : Nat) : Int) from by omega]); refine (pass_move q ok _ fr (fr + k) nw (k : Int) cs ?_ (by omega) cb1 (by omega)).mono ?_; (first | exact ts.drewN _ | exact ts.drew | exact ts); rintro e w' ⟨rfl, hs, hk⟩))
    all_goals
      go_wp2_with fail
      go_meet
      case rel => exact HFR.out ▸ HCS.out ▸ T1.after ok (T1.drewN T0 1) hs hk LT
  case rest =>
    have T0 : Hid _ := hcut
    obtain ⟨ts, tk, tp, tx, tlt, txs⟩ := hcut
    obtain ⟨c1, c2, c3, c4, c5, c6, c7, c8, c9, c10, c11, c12, c13, c14⟩ := ts.cells
    obtain ⟨f1, f2, f3, f4⟩ := ts.free
    have n1 : ¬ q.cl = X := by omega
    have n2 : ¬ X = q.cl := by omega
    have n3 : ¬ q.r = X := by omega
    have n4 : ¬ X = q.r := by omega
    have hpk := tp fr1 hin
    rw [HNW.out] at hpk
    have HP : Hid _ := hpk
    clear hpk
    go_wp2_with fail
    refine (placeStart_in q.c q.b q.n q.n fr1 nw1 _ hin okn c14 HP.out).mono ?_
    rintro e w' ⟨rfl, rfl⟩
    go_wp2
    have TB := T1.step ok T0.out nw1 LT
    obtain ⟨WB, hWB⟩ : ∃ WB, ((wc.setCell ⟨q.cl, 7, none⟩ (.int .i64 nw1)).setCell ⟨q.r, 10, none⟩ (.int .i64 0)) = WB := ⟨_, rfl⟩
    rw [hWB] at TB ⊢
    clear ts tk tp tx tlt txs c1 c2 c3 c4 c5 c6 c7 c8 c9 c10 c11 c12 c13 c14 f1 f2 f3 f4 T0 hWB n1 n2 n3 n4
    have T0 : Hid _ := TB
    obtain ⟨ts, tk, tp, tx, tlt, txs⟩ := TB
    obtain ⟨c1, c2, c3, c4, c5, c6, c7, c8, c9, c10, c11, c12, c13, c14⟩ := ts.cells
    obtain ⟨f1, f2, f3, f4⟩ := ts.free
    go_quiet (fail)
    have T2 := T1.drewN T0 nq
    obtain ⟨W2, hW2⟩ : ∃ W2, WB.drewN nq = W2 := ⟨_, rfl⟩
    rw [hW2] at T2 ⊢
    clear ts tk tp tx tlt txs c1 c2 c3 c4 c5 c6 c7 c8 c9 c10 c11 c12 c13 c14 f1 f2 f3 f4 T0 hW2
    obtain ⟨ts, tk, tp, tx, tlt, txs⟩ := T2
    obtain ⟨c1, c2, c3, c4, c5, c6, c7, c8, c9, c10, c11, c12, c13, c14⟩ := ts.cells
    obtain ⟨f1, f2, f3, f4⟩ := ts.free
    go_wp2
    go_quiet ((go_at_call 14; exact quiet_flip (placeStart_out q.c q.b q.n q.n q.n q.start q.by' en _ (Nat.le_refl _) okn (by omega) ok.sb ok.bb hen (by simp [c14]) (by simp [c13]) (by simp [c12]))))
    go_wp2
    go_ret
    exact ⟨rfl, ts.drewN _, tk.drewN _⟩

end Go.Proofs.Ybulkbiwm.Th
