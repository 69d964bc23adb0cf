import Derived.Test.YbulkbiwmThP
import Derived.Test.YbulkbiwmThC
/-! LawS2989AThought: (*client).thought. -/
namespace Go.Proofs.Ybulkbiwm.Th
open Go.RowKit
set_option linter.unusedVariables false
attribute [local go_sem ↓] Go.wp_at_zero Go.wp_at_succ

def Pl (q : Cf) (at' : Nat → Int) (w : World) : Prop := ∀ k, k < q.n → w.cell? ⟨q.b, k * 2, none⟩ = some (.int .i64 (at' k))

theorem Pl.kp {q : Cf} (ok : q.Ok) {at' : Nat → Int} {w w' : World} (h : Pl q at' w) (k : Kp q w w') : Pl q at' w' := by
  intro i hi
  have h1 := h i hi
  have hb := World.block_lt_of_cell? _ _ h1
  have := ok.o1; have := ok.o2; have := ok.o3; have := ok.o4
  rw [World.cell?_of_block (w := w) (k.block q.b hb (by omega) (by omega) (by omega))]
  exact h1

/-- Behind 'r, c := cl.r, cl.c': r lies in a variable of its own, at block X. -/
structure T1 (q : Cf) (at' : Nat → Int) (w W : World) (X fr : Nat) (nw wt cs : Int) : Prop where
  s : St q W fr nw wt cs
  k : Kp q w W
  p : Pl q at' W
  x : W.cell? ⟨X, 0, none⟩ = some (.pointer (some ⟨q.r, 0, none⟩))
  lt : X < W.heap.size
  xs : w.heap.size ≤ X

theorem T1.mk1 {q : Cf} (ok : q.Ok) {at' : Nat → Int} {w : World} {fr : Nat} {nw wt cs : Int} (s : St q w fr nw wt cs) (p : Pl q at' w) :
    T1 q at' w (w.alloc (.cells #[.pointer (some ⟨q.r, 0, none⟩)] 42)).drew w.heap.size fr nw wt cs := by
  have K := ((Kp.refl q w).alloc (.cells #[.pointer (some ⟨q.r, 0, none⟩)] 42)).drew
  refine ⟨(s.alloc _).drew, K, p.kp ok K, ?_, by simp, Nat.le_refl _⟩
  simp

theorem T1.lts {q : Cf} {at' : Nat → Int} {w W : World} {X fr : Nat} {nw wt cs : Int} (s : St q w fr nw wt cs) (t : w.heap.size ≤ X) : q.cl < X ∧ q.r < X ∧ q.g < X ∧ q.c < X ∧ (q.use = true → q.ca < X ∧ q.st < X) :=
  ⟨Nat.lt_of_lt_of_le (lt_of_block s.hcl) t, Nat.lt_of_lt_of_le (lt_of_block s.hr) t, Nat.lt_of_lt_of_le (lt_of_block s.hg) t, Nat.lt_of_lt_of_le (lt_of_block s.hc) t,
    fun u => ⟨Nat.lt_of_lt_of_le (lt_of_block (s.hca u).1) t, Nat.lt_of_lt_of_le (lt_of_block (s.hca u).2.2) t⟩⟩

theorem T1.drewN {q : Cf} {at' : Nat → Int} {w W : World} {X fr : Nat} {nw wt cs : Int} (t : T1 q at' w W X fr nw wt cs) (n : Nat) : T1 q at' w (W.drewN n) X fr nw wt cs :=
  ⟨t.s.drewN n, t.k.drewN n, t.p, t.x, t.lt, t.xs⟩

theorem quiet_flip {P : Program} {f : FuncId} {args : Array Value} {w : World} {n : Nat} {v : Value}
    (h : Calls P f args (w.drewN n) fun e w' => e = .returned v ∧ ∃ m, (w.drewN n).drewN m = w') : Calls P f args (w.drewN n) fun e w'' => e = .returned v ∧ ∃ m, w'' = w.drewN m :=
  h.mono fun _ _ ⟨he, m, hm⟩ => ⟨he, n + m, by rw [← hm, World.drewN_drewN]⟩

/-- The first place at or behind fr that starts at or behind rd. -/
def IsScan (at' : Nat → Int) (n : Nat) (rd : Int) (fr k : Nat) : Prop := fr ≤ k ∧ k ≤ n ∧ (∀ j, fr ≤ j → j < k → at' j < rd) ∧ (k < n → rd ≤ at' k)

set_option maxRecDepth 100000 in
set_option maxHeartbeats 1000000 in
/-- It waits on. -/
theorem thought_wait (q : Cf) (ok : q.Ok) (at' : Nat → Int) (w : World) (fr : Nat) (nw wt cs : Int) (s : St q w fr nw wt cs) (pl : Pl q at' w) (hfr : fr ≤ q.n) (b1 : wt ≤ 9223372036854775807) (h0 : 0 < wt) (h : (q.ni : Int) - (fr : Int) < wt)
    (wt' : Int) (H : Hid ((0 < (q.ni : Int) - (fr : Int) ∧ wt' = wt - ((q.ni : Int) - (fr : Int))) ∨ ((q.ni : Int) - (fr : Int) ≤ 0 ∧ wt' = wt))) :
    Calls Yba.prog 8 #[.pointer (some ⟨q.cl, 0, none⟩)] w fun e w' => e = .returned (.bool false) ∧ St q w' fr nw wt' cs ∧ Kp q w w' := by
  have okn := ok.n
  have okni := ok.ni
  obtain ⟨c1, c2, c3, c4, c5, c6, c7, c8, c9, c10, c11, c12, c13, c14⟩ := s.cells
  have S : Hid _ := s
  have T := T1.mk1 ok s pl
  have m1 := World.new_ne w _ c2
  have m2 := World.new_ne w _ c3
  obtain ⟨W, hW⟩ : ∃ W, (w.alloc (.cells #[.pointer (some ⟨q.r, 0, none⟩)] 42)).drew = W := ⟨_, rfl⟩
  rw [hW] at T
  have HW : Hid _ := hW
  clear s c1 c4 c5 c6 c7 c8 c9 c10 c11 c12 c13 c14 hW
  go_enter Yba.func8, Yba.ntmps8
  go_wp2
  go_region_held3 (fun w' => w'.cell? ⟨q.cl, 4, none⟩ = some (.pointer (some ⟨q.r, 0, none⟩)) ∧ w'.cell? ⟨q.cl, 5, none⟩ = some (.pointer (some ⟨q.c, 0, none⟩))) (go_keep) (fail)
  have hW := HW.out
  clear c2 c3 m1 m2
  rw [hW]
  obtain ⟨X, hX⟩ : ∃ X, w.heap.size = X := ⟨_, rfl⟩
  rw [hX] at T ⊢
  obtain ⟨ts, tk, tp, tx, tlt, txs⟩ := T
  obtain ⟨c1, c2, c3, c4, c5, c6, c7, c8, c9, c10, c11, c12, c13, c14⟩ := ts.cells
  obtain ⟨f1, f2, f3, f4⟩ := ts.free
  clear hW HW hX
  go_wp2
  go_quiet (fail)
  go_wp2
  all_goals
    go_ret
    refine ⟨rfl, ?_, (tk.drewN _).setCell (.inr (.inl rfl)) _⟩
    have hh := H.out
    first
      | (have e : wt' = wt := by rcases hh with ⟨_, _⟩ | ⟨_, _⟩ <;> omega
         rw [e]; exact (ts.drewN _).setWait ok _)
      | (have e : wt' = wt - ((q.ni : Int) - (fr : Int)) := by rcases hh with ⟨_, _⟩ | ⟨_, _⟩ <;> omega
         rw [e]; exact (ts.drewN _).setWait ok _)
end Go.Proofs.Ybulkbiwm.Th
