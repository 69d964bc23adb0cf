import Derived.Test.YbulkbiwmThS
/-! LawS2989AThought: (*client).pass. -/
namespace Go.Proofs.Ybulkbiwm.Th
open Go.RowKit
set_option linter.unusedVariables false
attribute [local go_sem ↓] Go.wp_at_zero Go.wp_at_succ

set_option maxRecDepth 100000 in
set_option maxHeartbeats 1000000 in
theorem pass_noop (q : Cf) (ok : q.Ok) (w : World) (fr to' : Nat) (nw wt cs : Int) (s : St q w fr nw wt cs) (h : to' ≤ fr) :
    Calls Yba.prog 13 #[.pointer (some ⟨q.cl, 0, none⟩), .int .i64 to'] w fun e w' => e = .returned (.tuple #[]) ∧ w = w' := by
  obtain ⟨c1, c2, c3, c4, c5, c6, c7, c8, c9, c10, c11, c12, c13, c14⟩ := s.cells
  clear c1 c2 c3 c5 c6 c7 c8 c9 c10 c11 c12 c13 c14
  go_enter Yba.func13, Yba.ntmps13
  go_wp2
  first | go_end0 | refine bodyPost_ret (results_none rfl _ _ _) rfl ?_
  exact ⟨rfl, rfl⟩

set_option maxRecDepth 100000 in
set_option maxHeartbeats 1000000 in
theorem pass_nil (q : Cf) (ok : q.Ok) (w : World) (fr to' : Nat) (nw wt cs : Int) (s : St q w fr nw wt cs) (h : fr < to') (u : q.use = false) :
    Calls Yba.prog 13 #[.pointer (some ⟨q.cl, 0, none⟩), .int .i64 to'] w fun e w' => e = .returned (.tuple #[]) ∧ w.setCell ⟨q.cl, 6, none⟩ (.int .i64 to') = w' := by
  obtain ⟨c1, c2, c3, c4, c5, c6, c7, c8, c9, c10, c11, c12, c13, c14⟩ := s.cells
  obtain ⟨f1, f2, f3, f4⟩ := s.free
  clear c2 c3 c5 c6 c7 c8 c9 c10 c11 c12 c13 c14
  unfold Cf.cp at c1
  rw [u] at c1
  simp only [Bool.false_eq_true, if_false] at c1
  go_enter Yba.func13, Yba.ntmps13
  go_wp2
  first | go_end0 | refine bodyPost_ret (results_none rfl _ _ _) rfl ?_
  exact ⟨rfl, rfl⟩

set_option maxRecDepth 100000 in
set_option maxHeartbeats 1000000 in
theorem pass_cache (q : Cf) (ok : q.Ok) (w : World) (fr to' : Nat) (nw wt cs : Int) (s : St q w fr nw wt cs) (h : fr < to') (u : q.use = true) (b1 : 0 ≤ cs) (b2 : cs ≤ 100) :
    Calls Yba.prog 13 #[.pointer (some ⟨q.cl, 0, none⟩), .int .i64 to'] w fun e w' => e = .returned (.tuple #[]) ∧ St q w' to' nw wt (cs + 1) ∧ Kp q w w' := by
  obtain ⟨c1, c2, c3, c4, c5, c6, c7, c8, c9, c10, c11, c12, c13, c14⟩ := s.cells
  obtain ⟨f1, f2, f3, f4⟩ := s.free
  clear c5 c7 c8 c11 c12 c13 c14 f2 f3
  unfold Cf.cp at c1
  rw [u] at c1
  simp only [if_true] at c1
  have o5 := ok.o5 u
  have o4 := ok.o4
  have o3 := ok.o3
  have n1 : ¬ q.cl = q.g := by omega
  have n2 : ¬ q.r = q.g := by omega
  have n3 : ¬ q.ca = q.g := by omega
  have n4 : ¬ q.st = q.g := by omega
  have n1' : ¬ q.g = q.cl := by omega
  have n2' : ¬ q.g = q.r := by omega
  obtain ⟨k1, k2, k3⟩ := s.hca u
  have k4 : w.cell? ⟨q.ca, 6, none⟩ = some (.map (some q.st)) := (cell_of k1 6).trans k2
  have lst := lt_of_block k3
  have S : Hid _ := s
  have K3 : Hid _ := k3
  clear s k1 k2 k3
  go_enter Yba.func13, Yba.ntmps13
  go_wp2
  go_region_held3 (fun w' => w'.cell? ⟨q.cl, 3, none⟩ = some (.pointer (some ⟨q.ca, 0, none⟩)) ∧ w'.cell? ⟨q.cl, 5, none⟩ = some (.pointer (some ⟨q.c, 0, none⟩)) ∧ w'.cell? ⟨q.cl, 6, none⟩ = some (.int .i64 fr)) (go_keep)
    (first
      | (go_at_call 18; refine (reading_any q.cl q.r q.c q.g cs q.ver _ b1 b2 n1 n2 ?_ ?_ ?_ ?_ ?_ ?_).mono ?_; (simp [c2]); (simp [c3]); (simp [c6]); (simp [c9]); (simp [f4]); (simp [c10]); rintro e w' ⟨rfl, q1, rfl⟩)
      | (go_at_call 17; refine (passed_none q.ca q.st q.ck _ _ _ _ _ ?_ ?_).mono ?_; (exact (World.cell?_setCell_far w ⟨q.g, 0, none⟩ ⟨q.ca, 6, none⟩ _ (fun e => n3 e.symm)).trans k4); (exact (heap_setCell_other w ⟨q.g, 0, none⟩ _ _ n4).trans K3); rintro e w' ⟨rfl, rfl⟩))
  have S2 := ((S.out.setCalls ok (cs + 1)).drewN (1 + q1)).alloc (.mapIter (some q.st) q.ck #[] q.ck)
  have K2 := (((Kp.refl q w).setCell (p := ⟨q.g, 0, none⟩) (.inr (.inr (.inl rfl))) (.int .i64 (cs + 1))).drewN (1 + q1)).alloc (.mapIter (some q.st) q.ck #[] q.ck)
  obtain ⟨W2, hW2⟩ : ∃ W2, (((w.setCell ⟨q.g, 0, none⟩ (.int .i64 (cs + 1))).drewN (1 + q1)).alloc (.mapIter (some q.st) q.ck #[] q.ck)) = W2 := ⟨_, rfl⟩
  rw [hW2] at S2 K2
  have d4 := S2.cells.2.2.2.1
  have d1 := S2.free.1
  clear c1 c2 c3 c4 c6 c9 c10 f1 f4 k4 K3
  go_wp2
  go_end0
  exact ⟨rfl, S2.setFrom ok to', K2.setCell (.inl rfl) _⟩

/-- How often a pass that moves asks the guard. -/
def Cf.inc (q : Cf) : Int := if q.use then 1 else 0

theorem pass_move (q : Cf) (ok : q.Ok) (w : World) (fr to' : Nat) (nw wt cs : Int) (s : St q w fr nw wt cs) (h : fr < to') (b1 : 0 ≤ cs) (b2 : cs ≤ 100) :
    Calls Yba.prog 13 #[.pointer (some ⟨q.cl, 0, none⟩), .int .i64 to'] w fun e w' => e = .returned (.tuple #[]) ∧ St q w' to' nw wt (cs + q.inc) ∧ Kp q w w' := by
  cases u : q.use with
  | false =>
    refine (pass_nil q ok w fr to' nw wt cs s h u).mono ?_
    rintro e w' ⟨he, rfl⟩
    have : cs + q.inc = cs := by unfold Cf.inc; rw [u]; simp
    rw [this]
    exact ⟨he, s.setFrom ok to', (Kp.refl q w).setCell (.inl rfl) _⟩
  | true =>
    have : cs + q.inc = cs + 1 := by unfold Cf.inc; rw [u]; simp
    rw [this]
    exact pass_cache q ok w fr to' nw wt cs s h u b1 b2

/-- The same, asked of a pass that may stand still. -/
def Cf.incIf (q : Cf) (fr to' : Nat) : Int := if fr < to' then q.inc else 0

theorem pass_any (q : Cf) (ok : q.Ok) (w : World) (fr to' : Nat) (nw wt cs : Int) (s : St q w fr nw wt cs) (h : fr ≤ to') (b1 : 0 ≤ cs) (b2 : cs ≤ 100) :
    Calls Yba.prog 13 #[.pointer (some ⟨q.cl, 0, none⟩), .int .i64 to'] w fun e w' => e = .returned (.tuple #[]) ∧ St q w' to' nw wt (cs + q.incIf fr to') ∧ Kp q w w' := by
  by_cases hlt : fr < to'
  · have : q.incIf fr to' = q.inc := by unfold Cf.incIf; rw [if_pos hlt]
    rw [this]
    exact pass_move q ok w fr to' nw wt cs s hlt b1 b2
  · have : cs + q.incIf fr to' = cs := by unfold Cf.incIf; rw [if_neg hlt]; omega
    rw [this]
    have e : fr = to' := by omega
    subst e
    refine (pass_noop q ok w fr fr nw wt cs s (Nat.le_refl _)).mono ?_
    rintro e w' ⟨he, rfl⟩
    exact ⟨he, s, Kp.refl _ _⟩
end Go.Proofs.Ybulkbiwm.Th
