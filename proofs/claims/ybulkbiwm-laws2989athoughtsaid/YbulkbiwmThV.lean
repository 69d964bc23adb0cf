import Derived.Test.YbulkbiwmThT
import Derived.Deep.RegionWith
/-! LawS2989AThought: (*client).thought, where nothing waits. -/
namespace Go.Proofs.Ybulkbiwm.Th
open Go.RowKit
set_option linter.unusedVariables false
attribute [local go_sem ↓] Go.wp_at_zero Go.wp_at_succ

theorem wrap_nat (a b : Nat) (h : a + b ≤ 100000) : IntKind.i64.wrap ((a : Int) + (b : Int)) = ((a + b : Nat) : Int) := by
  rw [IntKind.wrap_i64]
  omega

/-- .. and the places that are left lie in a second variable, at block X2. -/
structure T2 (q : Cf) (at' : Nat → Int) (w W : World) (X X2 fr : Nat) (nw wt cs : Int) (v : Value) : Prop where
  t : T1 q at' w W X fr nw wt cs
  x2 : W.cell? ⟨X2, 0, none⟩ = some v
  lt2 : X2 < W.heap.size

theorem T2.mk2 {q : Cf} (ok : q.Ok) {at' : Nat → Int} {w W : World} {X fr : Nat} {nw wt cs : Int} (t : T1 q at' w W X fr nw wt cs) (v : Value) (ty : TypeId) :
    T2 q at' w (W.alloc (.cells #[v] ty)).drew X W.heap.size fr nw wt cs v := by
  have K := ((Kp.refl q W).alloc (.cells #[v] ty)).drew
  refine ⟨⟨(t.s.alloc _).drew, t.k.trans K, t.p.kp ok K, ?_, by have := t.lt; simp; omega, t.xs⟩, by simp, by simp⟩
  have := t.lt
  have hb := t.x
  show (W.alloc (.cells #[v] ty)).cell? ⟨X, 0, none⟩ = _
  rw [World.cell?_of_block (w := W) (Below.heap_alloc W _ X this)]
  exact hb

theorem cellX {q : Cf} {w W w' : World} {X fr m : Nat} {nw wt cs : Int} (xs : w.heap.size ≤ X) (s : St q w fr nw wt cs) (k : Kp q (W.drewN m) w') {v : Value} (x : W.cell? ⟨X, 0, none⟩ = some v) (lt : X < W.heap.size) : w'.cell? ⟨X, 0, none⟩ = some v := by
  have l := T1.lts (at' := fun _ => 0) (W := W) s xs
  rw [World.cell?_of_block (w := W) (k.block X lt (by omega) (by omega) (by omega))]
  exact x

theorem scan_of {at' : Nat → Int} {n fr i : Nat} {rd : Int} (hfr : fr ≤ n) (hi : i ≤ n - fr) (lo : ∀ j, j < i → at' (fr + j) < rd) (up : i < n - fr → rd ≤ at' (fr + i)) : IsScan at' n rd fr (fr + i) :=
  ⟨by omega, by omega, fun j h1 h2 => by
    have := lo (j - fr) (by omega)
    rw [show fr + (j - fr) = j by omega] at this
    exact this, fun h => up (by omega)⟩

theorem closure_at {q : Cf} (ok : q.Ok) {at' : Nat → Int} {w W : World} {X X2 fr : Nat} {nw wt cs : Int} {RA : Option Addr} (t : T2 q at' w W X X2 fr nw wt cs (.slice RA (q.n - fr) (q.n - fr)))
    (hRA : (if q.n = fr then some (⟨q.b, 0, none⟩ : Addr) else some ⟨q.b, fr * 2, none⟩) = RA) :
    ∀ Wx : World, Wx.heap = W.heap → ∀ h, h < q.n - fr → ∀ q1, Calls Yba.prog 16 #[.int .i64 h, .pointer (some ⟨X2, 0, none⟩), .pointer (some ⟨X, 0, none⟩)] (Wx.drewN q1) fun e w' => e = .returned (.bool (decide (q.rd ≤ at' (fr + h)))) ∧ ∃ m, (Wx.drewN q1).drewN m = w' := by
  intro Wx hx h hh q1
  have hc : ∀ a, (Wx.drewN q1).cell? a = W.cell? a := fun a => by
    show Wx.cell? a = W.cell? a
    unfold World.cell?
    rw [hx]
  have hn := ok.n
  rw [if_neg (by omega)] at hRA
  subst hRA
  exact closure_any X2 X q.r q.b (fr * 2) (q.n - fr) (q.n - fr) h (at' (fr + h)) q.rd _ hh (by omega) (by rw [hc]; exact t.x2) (by rw [hc]; exact t.t.x) (by rw [hc]; exact t.t.s.cells.2.2.2.2.2.2.2.1)
    (by rw [hc, show fr * 2 + h * 2 = (fr + h) * 2 by omega]; exact t.t.p _ (by omega))

set_option maxRecDepth 100000 in
set_option maxHeartbeats 2000000 in
theorem thought_b3 (q : Cf) (ok : q.Ok) (at' : Nat → Int) (w : World) (fr : Nat) (nw wt cs : Int) (s : St q w fr nw wt cs) (pl : Pl q at' w) (hfr : fr ≤ q.n) (h0 : wt ≤ 0) (h : nw < q.rd) (en : Int) (hen : q.start + q.by' = en) (h2 : q.rd < en) (mono : ∀ a b, a ≤ b → b < q.n → at' a ≤ at' b) (cb1 : 0 ≤ cs) (cb2 : cs ≤ 50) :
    Calls Yba.prog 8 #[.pointer (some ⟨q.cl, 0, none⟩)] w fun e w' => e = .returned (.bool true) ∧ ∃ k, IsScan at' q.n q.rd fr k ∧ St q w' k q.rd wt (cs + q.incIf fr k) ∧ Kp q w w' := by
  have okn := ok.n
  have okni := ok.ni
  obtain ⟨c1, c2, c3, c4, c5, c6, c7, c8, c9, c10, c11, c12, c13, c14⟩ := s.cells
  have S : Hid _ := s
  have T := T1.mk1 ok s pl
  have m1 := World.new_ne w _ c2
  have m2 := World.new_ne w _ c3
  obtain ⟨W, hW⟩ : ∃ W, (w.alloc (.cells #[.pointer (some ⟨q.r, 0, none⟩)] 42)).drew = W := ⟨_, rfl⟩
  rw [hW] at T
  have HW : Hid _ := hW
  clear s c1 c4 c5 c6 c7 c8 c9 c10 c11 c12 c13 c14 hW
  go_enter Yba.func8, Yba.ntmps8
  go_wp2
  go_region_held3 (fun w' => w'.cell? ⟨q.cl, 4, none⟩ = some (.pointer (some ⟨q.r, 0, none⟩)) ∧ w'.cell? ⟨q.cl, 5, none⟩ = some (.pointer (some ⟨q.c, 0, none⟩))) (go_keep) (fail)
  have hW := HW.out
  clear c2 c3 m1 m2
  rw [hW]
  obtain ⟨X, hX⟩ : ∃ X, w.heap.size = X := ⟨_, rfl⟩
  rw [hX] at T ⊢
  clear hW HW hX
  have T0 : Hid _ := T
  obtain ⟨ts, tk, tp, tx, tlt, txs⟩ := T
  obtain ⟨c1, c2, c3, c4, c5, c6, c7, c8, c9, c10, c11, c12, c13, c14⟩ := ts.cells
  obtain ⟨f1, f2, f3, f4⟩ := ts.free
  go_wp2
  go_quiet (fail)
  have T2 := T1.drewN T0 nq
  obtain ⟨W2, hW2⟩ : ∃ W2, W.drewN nq = W2 := ⟨_, rfl⟩
  rw [hW2] at T2 ⊢
  clear ts tk tp tx tlt txs c1 c2 c3 c4 c5 c6 c7 c8 c9 c10 c11 c12 c13 c14 f1 f2 f3 f4 T0 hW2
  obtain ⟨ts, tk, tp, tx, tlt, txs⟩ := T2
  obtain ⟨c1, c2, c3, c4, c5, c6, c7, c8, c9, c10, c11, c12, c13, c14⟩ := ts.cells
  obtain ⟨f1, f2, f3, f4⟩ := ts.free
  go_wp2
  go_quiet ((go_at_call 14; exact quiet_flip (placeStart_out q.c q.b q.n q.n q.n q.start q.by' en _ (Nat.le_refl _) okn (by omega) ok.sb ok.bb hen (by simp [c14]) (by simp [c13]) (by simp [c12]))))
  have T3 := T1.drewN ⟨ts, tk, tp, tx, tlt, txs⟩ nq
  obtain ⟨W3, hW3⟩ : ∃ W3, W2.drewN nq = W3 := ⟨_, rfl⟩
  rw [hW3] at T3 ⊢
  clear ts tk tp tx tlt txs c1 c2 c3 c4 c5 c6 c7 c8 c9 c10 c11 c12 c13 c14 f1 f2 f3 f4 hW3
  obtain ⟨ts, tk, tp, tx, tlt, txs⟩ := T3
  obtain ⟨c1, c2, c3, c4, c5, c6, c7, c8, c9, c10, c11, c12, c13, c14⟩ := ts.cells
  have m1 := World.new_ne W3 _ c14
  have m2 := World.new_ne W3 _ c4
  have i0 : (0 : Int) ≤ (fr : Int) := by omega
  have i1 : (fr : Int) ≤ (q.n : Int) := by omega
  go_wp2
  go_region_held3 (fun w' => w'.cell? ⟨q.c, 10, none⟩ = some (.slice (some ⟨q.b, 0, none⟩) q.n q.n) ∧ w'.cell? ⟨q.cl, 6, none⟩ = some (.int .i64 fr)) (go_keep) (fail)
  obtain ⟨RA, hRA⟩ : ∃ RA, (if q.n = fr then some (⟨q.b, 0, none⟩ : Addr) else some ⟨q.b, fr * 2, none⟩) = RA := ⟨_, rfl⟩
  rw [hRA]
  obtain ⟨X2, hX2⟩ : ∃ X2, W3.heap.size = X2 := ⟨_, rfl⟩
  have T4 := T2.mk2 ok ⟨ts, tk, tp, tx, tlt, txs⟩ (.slice RA (q.n - fr) (q.n - fr)) 24
  obtain ⟨W4, hW4⟩ : ∃ W4, (W3.alloc (.cells #[.slice RA (q.n - fr) (q.n - fr)] 24)).drew = W4 := ⟨_, rfl⟩
  rw [hW4, hX2] at T4
  rw [hW4, hX2]
  have HF : Hid _ := closure_at ok T4 hRA
  have HM : Hid _ := mono
  have R : Hid _ := hRA
  clear ts tk tp tx tlt txs c1 c2 c3 c4 c5 c6 c7 c8 c9 c10 c11 c12 c13 c14 hW4 hX2 hRA m1 m2 mono
  obtain ⟨⟨ts, tk, tp, tx, tlt, txs⟩, tx2, tlt2⟩ := T4
  obtain ⟨c1, c2, c3, c4, c5, c6, c7, c8, c9, c10, c11, c12, c13, c14⟩ := ts.cells
  have hmf : ∀ (fn : Fn) (first cap : Array Value) (w : World), (Instr.makeFunc fn first cap).run Yba.prog w = .ok (.func fn first cap) w := fun _ _ _ _ => rfl
  go_wp2
  go_region_with (first
      | (go_at_call 15; refine (search_any X2 X (q.n - fr) (fun h => at' (fr + h)) q.rd _ (by omega) (fun a b hab hb => HM.out _ _ (by omega) (by omega)) ?_).mono ?_; (exact HF.out _ rfl); rintro e w' ⟨i, hi, lo, up, rfl, q2, rfl⟩)
      | (go_at_call 13; rw [wrap_nat fr i (by omega)]; refine (pass_any q ok _ fr (fr + i) nw wt cs ?_ (by omega) cb1 (by omega)).mono ?_; (exact ts.drewN _); rintro e w' ⟨rfl, hs, hk⟩))
  all_goals
    have hx := cellX txs S.out hk tx tlt
    have hc8 := hs.cells.2.2.2.2.2.2.2.1
    have hc5 := hs.cells.2.2.2.2.1
    have hf2 := hs.free.2.1
    have HS : Hid _ := hs
    have HK : Hid _ := hk
    have LO : Hid _ := lo
    have UP : Hid _ := up
    clear c1 c2 c3 c4 c5 c6 c7 c8 c9 c10 c11 c12 c13 c14 hs hk lo up tx2 tlt2 ts hmf
    go_wp2
    go_ret
    exact ⟨rfl, fr + i, scan_of hfr hi LO.out UP.out, HS.out.setNow ok _, ((tk.drewN _).trans HK.out).setCell (.inl rfl) _⟩

end Go.Proofs.Ybulkbiwm.Th
