import Derived.Test.YbulkbiyqAt
import Derived.Deep.QuietTactic
import Derived.BigQuiet
import Derived.Deep.RegionWith
import Derived.Deep.DrawnRows
import Derived.Deep.DeepCutAuto
/-! (*expirySweep).setLocked. The region of its test draws its order and bears guards inside guards: 'undef' is written out as a value for that region, so that a guard that was itself passed over reads as no. -/
namespace Go.Proofs.Ybulkbiyq
open Go.RowKit
set_option linter.unusedVariables false
attribute [local go_sem ↓] Go.wp_at_zero Go.wp_at_succ

theorem hid {p : Prop} (h : p) : Hid p := h

/-- All blocks but one are as they were. -/
structure Kp (E : Nat) (w w' : World) : Prop where
  os : w'.os = w.os
  tape : w'.tape = w.tape
  output : w'.output = w.output
  size : w.heap.size ≤ w'.heap.size
  block : ∀ k, k < w.heap.size → k ≠ E → w'.heap[k]? = w.heap[k]?
theorem Kp.refl (E : Nat) (w : World) : Kp E w w := ⟨rfl, rfl, rfl, Nat.le_refl _, fun _ _ _ => rfl⟩
theorem Kp.trans {E : Nat} {a b c : World} (h : Kp E a b) (k : Kp E b c) : Kp E a c :=
  ⟨k.os.trans h.os, k.tape.trans h.tape, k.output.trans h.output, Nat.le_trans h.size k.size, fun i hi h1 => (k.block i (Nat.lt_of_lt_of_le hi h.size) h1).trans (h.block i hi h1)⟩
theorem Kp.drew {E : Nat} {a b : World} (h : Kp E a b) : Kp E a b.drew := ⟨h.os, h.tape, h.output, h.size, h.block⟩
theorem Kp.alloc {E : Nat} {a b : World} (h : Kp E a b) (o : Obj) : Kp E a (b.alloc o) :=
  ⟨h.os, h.tape, h.output, by simp; have := h.size; omega, fun i hi h1 => (Below.heap_alloc b o i (Nat.lt_of_lt_of_le hi h.size)).trans (h.block i hi h1)⟩
theorem Kp.setCell {E : Nat} {a b : World} (h : Kp E a b) (i : Nat) (u : Value) : Kp E a (b.setCell ⟨E, i, none⟩ u) :=
  ⟨h.os, h.tape, h.output, by simp; exact h.size, fun k hk h1 => (Below.heap_setCell b ⟨E, i, none⟩ u k h1).trans (h.block k hk h1)⟩
theorem Kp.of {E : Nat} {a b : World} (h : Below a.heap.size a b) : Kp E a b := ⟨h.os, h.tape, h.output, h.size, fun k hk _ => h.block k hk⟩
theorem Kp.below {E B : Nat} {a b : World} (h : Kp E a b) (h1 : B ≤ E) (h2 : B ≤ a.heap.size) : Below B a b := ⟨h.os, h.tape, h.output, h.size, fun k hk => h.block k (by omega) (by omega)⟩

theorem lt_of_block {w : World} {b : Nat} {o : Obj} (h : w.heap[b]? = some o) : b < w.heap.size := by
  rcases Nat.lt_or_ge b w.heap.size with g | g
  · exact g
  · simp [Array.getElem?_eq_none g] at h
theorem cell_of {w : World} {b : Nat} {A : Array Value} {t : TypeId} {m : Nat × Nat} (h : w.heap[b]? = some (.cells A t m)) (i : Nat) : w.cell? ⟨b, i, none⟩ = A[i]? := by
  unfold World.cell?
  rw [h]
  simp
theorem free_of {w : World} {b : Nat} {A : Array Value} {t : TypeId} (h : w.heap[b]? = some (.cells A t (0, 0))) (i : Nat) : w.frozen? ⟨b, i, none⟩ = false := by
  unfold World.frozen?
  rw [h]
  simp

/-- The sweep at block E: its next time is the zero one plus n nanoseconds. -/
def Nx (E : Nat) (n : Int) (w : World) : Prop := ∃ A : Array Value, w.heap[E]? = some (.cells A 37 (0, 0)) ∧ A[2]? = some (.int .u64 (n % 1000000000)) ∧ A[3]? = some (.int .i64 (n / 1000000000)) ∧ A[4]? = some (.pointer none)
theorem Nx.cells {E : Nat} {n : Int} {w : World} (h : Nx E n w) : w.cell? ⟨E, 2, none⟩ = some (.int .u64 (n % 1000000000)) ∧ w.cell? ⟨E, 3, none⟩ = some (.int .i64 (n / 1000000000)) ∧ w.cell? ⟨E, 4, none⟩ = some (.pointer none) := by
  obtain ⟨A, hA, a2, a3, a4⟩ := h
  exact ⟨(cell_of hA 2).trans a2, (cell_of hA 3).trans a3, (cell_of hA 4).trans a4⟩
theorem Nx.free {E : Nat} {n : Int} {w : World} (h : Nx E n w) : w.frozen? ⟨E, 2, none⟩ = false ∧ w.frozen? ⟨E, 3, none⟩ = false ∧ w.frozen? ⟨E, 4, none⟩ = false := by
  obtain ⟨A, hA, _⟩ := h
  exact ⟨free_of hA 2, free_of hA 3, free_of hA 4⟩
theorem Nx.lt {E : Nat} {n : Int} {w : World} (h : Nx E n w) : E < w.heap.size := by
  obtain ⟨A, hA, _⟩ := h
  exact lt_of_block hA
theorem Nx.below {E : Nat} {n : Int} {w w' : World} (h : Nx E n w) (b : Below w.heap.size w w') : Nx E n w' := by
  have hl := h.lt
  obtain ⟨A, hA, r⟩ := h
  exact ⟨A, (b.block E hl).trans hA, r⟩
theorem Nx.store {E : Nat} {n : Int} {w : World} (h : Nx E n w) (a : Int) : Nx E a (((w.setCell ⟨E, 2, none⟩ (.int .u64 (a % 1000000000))).setCell ⟨E, 3, none⟩ (.int .i64 (a / 1000000000))).setCell ⟨E, 4, none⟩ (.pointer none)) := by
  obtain ⟨A, hA, a2, a3, a4⟩ := h
  have s2 := (Array.getElem?_eq_some_iff.1 a2).1
  have s3 := (Array.getElem?_eq_some_iff.1 a3).1
  have s4 := (Array.getElem?_eq_some_iff.1 a4).1
  refine ⟨((A.setIfInBounds 2 (.int .u64 (a % 1000000000))).setIfInBounds 3 (.int .i64 (a / 1000000000))).setIfInBounds 4 (.pointer none), heap_setCell_same _ _ _ _ _ _ (heap_setCell_same _ _ _ _ _ _ (heap_setCell_same w E 2 A 37 _ hA)), ?_, ?_, ?_⟩ <;>
    simp [s2, s3, s4]

theorem below1 (w : World) (a b : Obj) : Below w.heap.size w ((w.alloc a).alloc b).drew := (((Below.refl _ _).alloc (Nat.le_refl _) _).alloc (by simp) _).drew

theorem below3 (w : World) (a b c : Obj) : Below w.heap.size w (((w.alloc a).alloc b).alloc c).drew := ((((Below.refl _ _).alloc (Nat.le_refl _) _).alloc (by simp) _).alloc (by simp; omega) _).drew
theorem below5 (w : World) (a b c d e : Obj) : Below w.heap.size w (((((w.alloc a).alloc b).alloc c).alloc d).alloc e).drew := ((((((Below.refl _ _).alloc (Nat.le_refl _) _).alloc (by simp) _).alloc (by simp; omega) _).alloc (by simp; omega) _).alloc (by simp; omega) _).drew

set_option maxRecDepth 100000 in
set_option maxHeartbeats 4000000 in
theorem set_zero (E : Nat) (a cur : Int) (w : World) (h : a = 0) (hx : Nx E cur w) :
    Calls Yba.prog 6 #[.pointer (some ⟨E, 0, none⟩), .agg #[.int .u64 (a % 1000000000), .int .i64 (a / 1000000000), .pointer none]] w fun e w' => e = .returned (.bool false) ∧ Nx E cur w' ∧ Kp E w w' := by
  obtain ⟨wl, hwl⟩ : ∃ wl, a % 1000000000 = wl := ⟨_, rfl⟩
  obtain ⟨ex, hex⟩ : ∃ ex, a / 1000000000 = ex := ⟨_, rfl⟩
  obtain ⟨wl2, hwl2⟩ : ∃ wl2, cur % 1000000000 = wl2 := ⟨_, rfl⟩
  obtain ⟨ex2, hex2⟩ : ∃ ex2, cur / 1000000000 = ex2 := ⟨_, rfl⟩
  obtain ⟨c2, c3, c4⟩ := hx.cells
  have hE := hx.lt
  have hE1 : E < w.heap.size + 1 := by omega
  have hE2 : E < w.heap.size + 1 + 1 := by omega
  have g1 : 0 ≤ wl ∧ wl < 1000000000 := by omega
  have g2 : 0 ≤ wl2 ∧ wl2 < 1000000000 := by omega
  have z1 : wl = 0 := by omega
  have z2 : ex = 0 := by omega
  subst z1 z2
  have HX := hid hx
  have W := hid hwl
  have X := hid hex
  rw [hwl2] at c2
  rw [hex2] at c3
  rw [hwl, hex]
  clear hx hwl hex hwl2 hex2
  go_enter Yba.func6, Yba.ntmps6
  go_wp2
  go_cut [23] (fun v wc => v = .bool true ∧ Below w.heap.size w wc ∧ wc.cell? ⟨w.heap.size, 0, none⟩ = some (.int .u64 0) ∧ wc.cell? ⟨w.heap.size, 1, none⟩ = some (.int .i64 0) ∧ wc.cell? ⟨w.heap.size, 2, none⟩ = some (.pointer none))
  case first =>
    have hud : undef = Value.tuple #[] := rfl
    first
      | (go_region_with (first
        | (go_at_call 8; refine (isZero_yes _ _).mono ?_; rintro e w' ⟨rfl, rfl⟩)))
      | fail
    all_goals
      clear hud
      go_wp2_with fail
      go_meet
      case rel => exact ⟨rfl, below1 _ _ _, by simp [go_sem], by simp [go_sem], by simp [go_sem]⟩
  case rest =>
    obtain ⟨rfl, hb, b0, b1, b2⟩ := hcut
    have hy := HX.out.below hb
    obtain ⟨d2, d3, d4⟩ := hy.cells
    obtain ⟨f2, f3, f4⟩ := hy.free
    have HY := hid hy
    clear hy c2 c3 c4
    go_wp2
    go_ret
    exact ⟨rfl, HY.out, Kp.of hb⟩

set_option maxRecDepth 100000 in
set_option maxHeartbeats 4000000 in
theorem set_first (E : Nat) (a cur : Int) (w : World) (h : ¬ a = 0) (hc : cur = 0) (hx : Nx E cur w) :
    Calls Yba.prog 6 #[.pointer (some ⟨E, 0, none⟩), .agg #[.int .u64 (a % 1000000000), .int .i64 (a / 1000000000), .pointer none]] w fun e w' => e = .returned (.bool true) ∧ Nx E a w' ∧ Kp E w w' := by
  obtain ⟨wl, hwl⟩ : ∃ wl, a % 1000000000 = wl := ⟨_, rfl⟩
  obtain ⟨ex, hex⟩ : ∃ ex, a / 1000000000 = ex := ⟨_, rfl⟩
  obtain ⟨wl2, hwl2⟩ : ∃ wl2, cur % 1000000000 = wl2 := ⟨_, rfl⟩
  obtain ⟨ex2, hex2⟩ : ∃ ex2, cur / 1000000000 = ex2 := ⟨_, rfl⟩
  obtain ⟨c2, c3, c4⟩ := hx.cells
  have hE := hx.lt
  have hE1 : E < w.heap.size + 1 := by omega
  have hE2 : E < w.heap.size + 1 + 1 := by omega
  have g1 : 0 ≤ wl ∧ wl < 1000000000 := by omega
  have g2 : 0 ≤ wl2 ∧ wl2 < 1000000000 := by omega
  have hne : ¬ (wl = 0 ∧ ex = 0) := by omega
  have NE := hid hne
  clear hne
  have z1 : wl2 = 0 := by omega
  have z2 : ex2 = 0 := by omega
  subst z1 z2
  clear hc
  have HX := hid hx
  have W := hid hwl
  have X := hid hex
  rw [hwl2] at c2
  rw [hex2] at c3
  rw [hwl, hex]
  clear hx hwl hex hwl2 hex2
  clear h
  go_enter Yba.func6, Yba.ntmps6
  go_wp2
  go_cut [23] (fun v wc => v = .bool false ∧ Below w.heap.size w wc ∧ wc.cell? ⟨w.heap.size, 0, none⟩ = some (.int .u64 wl) ∧ wc.cell? ⟨w.heap.size, 1, none⟩ = some (.int .i64 ex) ∧ wc.cell? ⟨w.heap.size, 2, none⟩ = some (.pointer none))
  case first =>
    have hud : undef = Value.tuple #[] := rfl
    first
      | (go_region_with (first
        | (go_at_call_of 8 (Value.int .i64 ex); refine (isZero_no wl ex _ _ NE.out).mono ?_; rintro e w' ⟨rfl, rfl⟩)
        | (go_at_call 8; refine (isZero_yes _ _).mono ?_; rintro e w' ⟨rfl, rfl⟩)))
      | fail
    all_goals
      clear hud
      go_wp2_with fail
      go_meet
      case rel => exact ⟨rfl, below3 _ _ _ _, by simp [go_sem], by simp [go_sem], by simp [go_sem]⟩
  case rest =>
    obtain ⟨rfl, hb, b0, b1, b2⟩ := hcut
    have hy := HX.out.below hb
    obtain ⟨d2, d3, d4⟩ := hy.cells
    obtain ⟨f2, f3, f4⟩ := hy.free
    have HY := hid hy
    clear hy c2 c3 c4
    go_wp2
    go_ret
    refine ⟨rfl, ?_, (((Kp.of hb).setCell 2 _).setCell 3 _).setCell 4 _⟩
    rw [← W.out, ← X.out]
    exact HY.out.store a

set_option maxRecDepth 100000 in
set_option maxHeartbeats 4000000 in
theorem set_sooner (E : Nat) (a cur : Int) (w : World) (h : ¬ a = 0) (hc : ¬ cur = 0) (hlt : a < cur) (hx : Nx E cur w) :
    Calls Yba.prog 6 #[.pointer (some ⟨E, 0, none⟩), .agg #[.int .u64 (a % 1000000000), .int .i64 (a / 1000000000), .pointer none]] w fun e w' => e = .returned (.bool true) ∧ Nx E a w' ∧ Kp E w w' := by
  obtain ⟨wl, hwl⟩ : ∃ wl, a % 1000000000 = wl := ⟨_, rfl⟩
  obtain ⟨ex, hex⟩ : ∃ ex, a / 1000000000 = ex := ⟨_, rfl⟩
  obtain ⟨wl2, hwl2⟩ : ∃ wl2, cur % 1000000000 = wl2 := ⟨_, rfl⟩
  obtain ⟨ex2, hex2⟩ : ∃ ex2, cur / 1000000000 = ex2 := ⟨_, rfl⟩
  obtain ⟨c2, c3, c4⟩ := hx.cells
  have hE := hx.lt
  have hE1 : E < w.heap.size + 1 := by omega
  have hE2 : E < w.heap.size + 1 + 1 := by omega
  have g1 : 0 ≤ wl ∧ wl < 1000000000 := by omega
  have g2 : 0 ≤ wl2 ∧ wl2 < 1000000000 := by omega
  have hne : ¬ (wl = 0 ∧ ex = 0) := by omega
  have NE := hid hne
  clear hne
  have hne2 : ¬ (wl2 = 0 ∧ ex2 = 0) := by omega
  have NE2 := hid hne2
  clear hne2 hc
  have HB : Hid (true = true ↔ (ex < ex2 ∨ (ex = ex2 ∧ wl < wl2))) := ⟨fun _ => by omega, fun _ => rfl⟩
  have HBF := hid (fun (l l' : Value) (w : World) => before_any wl ex wl2 ex2 l l' w g1.1 g1.2 g2.1 g2.2 true HB)
  clear HB
  have HX := hid hx
  have W := hid hwl
  have X := hid hex
  rw [hwl2] at c2
  rw [hex2] at c3
  rw [hwl, hex]
  clear hx hwl hex hwl2 hex2
  clear h hlt
  go_enter Yba.func6, Yba.ntmps6
  go_wp2
  go_cut [23] (fun v wc => v = .bool false ∧ Below w.heap.size w wc ∧ wc.cell? ⟨w.heap.size, 0, none⟩ = some (.int .u64 wl) ∧ wc.cell? ⟨w.heap.size, 1, none⟩ = some (.int .i64 ex) ∧ wc.cell? ⟨w.heap.size, 2, none⟩ = some (.pointer none))
  case first =>
    have hud : undef = Value.tuple #[] := rfl
    first
      | (go_region_with (first
        | (go_at_call_of 8 (Value.int .i64 ex); refine (isZero_no wl ex _ _ NE.out).mono ?_; rintro e w' ⟨rfl, rfl⟩)
        | (go_at_call_of 8 (Value.int .i64 ex2); refine (isZero_no wl2 ex2 _ _ NE2.out).mono ?_; rintro e w' ⟨rfl, rfl⟩)
        | (go_at_call 10; refine Calls.mono (HBF.out _ _ _) ?_; rintro e w' ⟨rfl, rfl⟩)))
      | fail
    all_goals
      clear hud
      go_wp2_with fail
      go_meet
      case rel => exact ⟨rfl, below5 _ _ _ _ _ _, by simp [go_sem], by simp [go_sem], by simp [go_sem]⟩
  case rest =>
    obtain ⟨rfl, hb, b0, b1, b2⟩ := hcut
    have hy := HX.out.below hb
    obtain ⟨d2, d3, d4⟩ := hy.cells
    obtain ⟨f2, f3, f4⟩ := hy.free
    have HY := hid hy
    clear hy c2 c3 c4
    go_wp2
    go_ret
    refine ⟨rfl, ?_, (((Kp.of hb).setCell 2 _).setCell 3 _).setCell 4 _⟩
    rw [← W.out, ← X.out]
    exact HY.out.store a

set_option maxRecDepth 100000 in
set_option maxHeartbeats 4000000 in
theorem set_later (E : Nat) (a cur : Int) (w : World) (h : ¬ a = 0) (hc : ¬ cur = 0) (hlt : ¬ a < cur) (hx : Nx E cur w) :
    Calls Yba.prog 6 #[.pointer (some ⟨E, 0, none⟩), .agg #[.int .u64 (a % 1000000000), .int .i64 (a / 1000000000), .pointer none]] w fun e w' => e = .returned (.bool false) ∧ Nx E cur w' ∧ Kp E w w' := by
  obtain ⟨wl, hwl⟩ : ∃ wl, a % 1000000000 = wl := ⟨_, rfl⟩
  obtain ⟨ex, hex⟩ : ∃ ex, a / 1000000000 = ex := ⟨_, rfl⟩
  obtain ⟨wl2, hwl2⟩ : ∃ wl2, cur % 1000000000 = wl2 := ⟨_, rfl⟩
  obtain ⟨ex2, hex2⟩ : ∃ ex2, cur / 1000000000 = ex2 := ⟨_, rfl⟩
  obtain ⟨c2, c3, c4⟩ := hx.cells
  have hE := hx.lt
  have hE1 : E < w.heap.size + 1 := by omega
  have hE2 : E < w.heap.size + 1 + 1 := by omega
  have g1 : 0 ≤ wl ∧ wl < 1000000000 := by omega
  have g2 : 0 ≤ wl2 ∧ wl2 < 1000000000 := by omega
  have hne : ¬ (wl = 0 ∧ ex = 0) := by omega
  have NE := hid hne
  clear hne
  have hne2 : ¬ (wl2 = 0 ∧ ex2 = 0) := by omega
  have NE2 := hid hne2
  clear hne2 hc
  have HB : Hid (false = true ↔ (ex < ex2 ∨ (ex = ex2 ∧ wl < wl2))) := ⟨fun h => (by cases h), fun _ => by omega⟩
  have HBF := hid (fun (l l' : Value) (w : World) => before_any wl ex wl2 ex2 l l' w g1.1 g1.2 g2.1 g2.2 false HB)
  clear HB
  have HX := hid hx
  have W := hid hwl
  have X := hid hex
  rw [hwl2] at c2
  rw [hex2] at c3
  rw [hwl, hex]
  clear hx hwl hex hwl2 hex2
  clear h hlt
  go_enter Yba.func6, Yba.ntmps6
  go_wp2
  go_cut [23] (fun v wc => v = .bool true ∧ Below w.heap.size w wc ∧ wc.cell? ⟨w.heap.size, 0, none⟩ = some (.int .u64 wl) ∧ wc.cell? ⟨w.heap.size, 1, none⟩ = some (.int .i64 ex) ∧ wc.cell? ⟨w.heap.size, 2, none⟩ = some (.pointer none))
  case first =>
    have hud : undef = Value.tuple #[] := rfl
    first
      | (go_region_with (first
        | (go_at_call_of 8 (Value.int .i64 ex); refine (isZero_no wl ex _ _ NE.out).mono ?_; rintro e w' ⟨rfl, rfl⟩)
        | (go_at_call_of 8 (Value.int .i64 ex2); refine (isZero_no wl2 ex2 _ _ NE2.out).mono ?_; rintro e w' ⟨rfl, rfl⟩)
        | (go_at_call 10; refine Calls.mono (HBF.out _ _ _) ?_; rintro e w' ⟨rfl, rfl⟩)))
      | fail
    all_goals
      clear hud
      go_wp2_with fail
      go_meet
      case rel => exact ⟨rfl, below5 _ _ _ _ _ _, by simp [go_sem], by simp [go_sem], by simp [go_sem]⟩
  case rest =>
    obtain ⟨rfl, hb, b0, b1, b2⟩ := hcut
    have hy := HX.out.below hb
    obtain ⟨d2, d3, d4⟩ := hy.cells
    obtain ⟨f2, f3, f4⟩ := hy.free
    have HY := hid hy
    clear hy c2 c3 c4
    go_wp2
    go_ret
    exact ⟨rfl, HY.out, Kp.of hb⟩

/-- One call, whatever the two times. -/
theorem set_any (E : Nat) (a cur : Int) (w : World) (hx : Nx E cur w) (B : Bool) (n' : Int) (H : (B = true ∧ a ≠ 0 ∧ (cur = 0 ∨ a < cur) ∧ n' = a) ∨ (B = false ∧ (a = 0 ∨ (cur ≠ 0 ∧ ¬ a < cur)) ∧ n' = cur)) :
    Calls Yba.prog 6 #[.pointer (some ⟨E, 0, none⟩), .agg #[.int .u64 (a % 1000000000), .int .i64 (a / 1000000000), .pointer none]] w fun e w' => e = .returned (.bool B) ∧ Nx E n' w' ∧ Kp E w w' := by
  rcases H with ⟨rfl, h0, h1, rfl⟩ | ⟨rfl, h1, rfl⟩
  · by_cases hc : cur = 0
    · exact set_first E _ cur w h0 hc hx
    · exact set_sooner E _ cur w h0 hc (by omega) hx
  · by_cases h0 : a = 0
    · exact set_zero E a _ w h0 hx
    · exact set_later E a _ w h0 (by omega) (by omega) hx
end Go.Proofs.Ybulkbiyq
