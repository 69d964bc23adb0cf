import Derived.Test.YbulkbiyqSet
import Derived.Deep.RegionHeld3
/-! LawS2993CStep (function 3). -/
namespace Go.Proofs.Ybulkbiyq
open Go.RowKit
set_option linter.unusedVariables false
attribute [local go_sem ↓] Go.wp_at_zero Go.wp_at_succ

theorem nx_new (w : World) (n : Int) (a b c : Value) : Nx w.heap.size n (w.alloc (.cells #[a, b, .int .u64 (n % 1000000000), .int .i64 (n / 1000000000), .pointer none, c] 37)) :=
  ⟨_, by show (w.heap.push _)[w.heap.size]? = _; simp; rfl, rfl, rfl, rfl⟩

set_option maxRecDepth 100000 in
set_option maxHeartbeats 4000000 in
theorem step_zero (p a : Int) (w : World) (p1 : -9223372036854775808 ≤ p) (p2 : p ≤ 9223372036854775807) (a1 : -9223372036854775808 ≤ a) (a2 : a ≤ 9223372036854775807) (h : a = 0) :
    Calls Yba.prog 3 #[.int .i64 p, .int .i64 a] w fun e w' => e = .returned (.bool true) ∧ Below w.heap.size w w' := by
  have HH : ((false = true ∧ a ≠ 0 ∧ (p = 0 ∨ a < p) ∧ p = a) ∨ (false = false ∧ (a = 0 ∨ (p ≠ 0 ∧ ¬ a < p)) ∧ p = p)) := .inr ⟨rfl, .inl h, rfl⟩
  have SET := hid (fun (E : Nat) (w : World) (hx : Nx E p w) => set_any E a p w hx false p HH)
  have AP := hid (fun (w : World) => at_any p w p1 p2)
  have AA := hid (fun (w : World) => at_any a w a1 a2)
  have EQ := hid (fun (l l' : Value) (w : World) => equal_same (p % 1000000000) (p / 1000000000) l l' w (by omega) (by omega))
  clear HH p1 p2 a1 a2
  have t1 : (a != 0) = false := by simpa using h
  clear h
  go_enter Yba.func3, Yba.ntmps3
  go_wp2_with fail
  refine Calls.mono (AP.out _) ?_
  rintro e w1 ⟨rfl, hb1⟩
  have N1 := hid (nx_new w1 p (.int .i32 0) (.int .u32 0) (.chan none))
  go_wp2_with fail
  refine Calls.mono (AA.out _) ?_
  rintro e w2 ⟨rfl, hb2⟩
  have N2 := hid (N1.out.below hb2)
  obtain ⟨E, hE⟩ : ∃ E, w1.heap.size = E := ⟨_, rfl⟩
  rw [hE] at N2
  have L1 : Below w.heap.size w w2 := (hb1.trans ((Below.refl _ _).alloc hb1.size _)).trans (hb2.mono (by simp; have := hb1.size; omega))
  have hle : w.heap.size ≤ E := by rw [← hE]; exact hb1.size
  clear N1 hb1 hb2
  go_wp2_with fail
  refine Calls.mono (SET.out E _ N2.out) ?_
  rintro e w3 ⟨rfl, hn3, hk3⟩
  have N3 := hid hn3
  obtain ⟨c2, c3, c4⟩ := hn3.cells
  have L2 : Below w.heap.size w w3 := L1.trans (hk3.below hle L1.size)
  clear hn3 hk3 N2 L1 hE
  go_wp2
  go_region_held3 (fun w' => w'.cell? ⟨E, 2, none⟩ = some (.int .u64 (p % 1000000000)) ∧ w'.cell? ⟨E, 3, none⟩ = some (.int .i64 (p / 1000000000)) ∧ w'.cell? ⟨E, 4, none⟩ = some (.pointer none)) (first | go_keep | exact ⟨y2, y3, y4⟩)
    (first
    | (go_at_call 5; refine Calls.mono (AP.out _) ?_; rintro e w4 ⟨rfl, hb4⟩; obtain ⟨y2, y3, y4⟩ := (Nx.below (w := w3.drew) N3.out hb4).cells)
    | (go_at_call 7; refine Calls.mono (EQ.out _ _ _) ?_; rintro e w5 ⟨rfl, rfl⟩))
  all_goals
    go_wp2
    go_ret
    exact ⟨rfl, ((L2.drew.trans (hb4.mono L2.size)).alloc (Nat.le_trans L2.size hb4.size) _).alloc (by simp; have := Nat.le_trans L2.size hb4.size; omega) _⟩

set_option maxRecDepth 100000 in
set_option maxHeartbeats 4000000 in
theorem step_first (p a : Int) (w : World) (p1 : -9223372036854775808 ≤ p) (p2 : p ≤ 9223372036854775807) (a1 : -9223372036854775808 ≤ a) (a2 : a ≤ 9223372036854775807) (h : ¬ a = 0) (h' : p = 0) :
    Calls Yba.prog 3 #[.int .i64 p, .int .i64 a] w fun e w' => e = .returned (.bool true) ∧ Below w.heap.size w w' := by
  have HH : ((true = true ∧ a ≠ 0 ∧ (p = 0 ∨ a < p) ∧ a = a) ∨ (true = false ∧ (a = 0 ∨ (p ≠ 0 ∧ ¬ a < p)) ∧ a = p)) := .inl ⟨rfl, h, .inl h', rfl⟩
  have SET := hid (fun (E : Nat) (w : World) (hx : Nx E p w) => set_any E a p w hx true a HH)
  have AP := hid (fun (w : World) => at_any p w p1 p2)
  have AA := hid (fun (w : World) => at_any a w a1 a2)
  have EQ := hid (fun (l l' : Value) (w : World) => equal_same (a % 1000000000) (a / 1000000000) l l' w (by omega) (by omega))
  clear HH p1 p2 a1 a2
  have t1 : (a != 0) = true := by simpa using h
  have t2 : (p == 0) = true := by simpa using h'
  clear h h'
  go_enter Yba.func3, Yba.ntmps3
  go_wp2_with fail
  refine Calls.mono (AP.out _) ?_
  rintro e w1 ⟨rfl, hb1⟩
  have N1 := hid (nx_new w1 p (.int .i32 0) (.int .u32 0) (.chan none))
  go_wp2_with fail
  refine Calls.mono (AA.out _) ?_
  rintro e w2 ⟨rfl, hb2⟩
  have N2 := hid (N1.out.below hb2)
  obtain ⟨E, hE⟩ : ∃ E, w1.heap.size = E := ⟨_, rfl⟩
  rw [hE] at N2
  have L1 : Below w.heap.size w w2 := (hb1.trans ((Below.refl _ _).alloc hb1.size _)).trans (hb2.mono (by simp; have := hb1.size; omega))
  have hle : w.heap.size ≤ E := by rw [← hE]; exact hb1.size
  clear N1 hb1 hb2
  go_wp2_with fail
  refine Calls.mono (SET.out E _ N2.out) ?_
  rintro e w3 ⟨rfl, hn3, hk3⟩
  have N3 := hid hn3
  obtain ⟨c2, c3, c4⟩ := hn3.cells
  have L2 : Below w.heap.size w w3 := L1.trans (hk3.below hle L1.size)
  clear hn3 hk3 N2 L1 hE
  go_wp2
  go_region_held3 (fun w' => w'.cell? ⟨E, 2, none⟩ = some (.int .u64 (a % 1000000000)) ∧ w'.cell? ⟨E, 3, none⟩ = some (.int .i64 (a / 1000000000)) ∧ w'.cell? ⟨E, 4, none⟩ = some (.pointer none)) (first | go_keep | exact ⟨y2, y3, y4⟩)
    (first
    | (go_at_call 5; refine Calls.mono (AA.out _) ?_; rintro e w4 ⟨rfl, hb4⟩; obtain ⟨y2, y3, y4⟩ := (Nx.below (w := w3.drew) N3.out hb4).cells)
    | (go_at_call 7; refine Calls.mono (EQ.out _ _ _) ?_; rintro e w5 ⟨rfl, rfl⟩))
  all_goals
    go_wp2
    go_ret
    exact ⟨rfl, ((L2.drew.trans (hb4.mono L2.size)).alloc (Nat.le_trans L2.size hb4.size) _).alloc (by simp; have := Nat.le_trans L2.size hb4.size; omega) _⟩

set_option maxRecDepth 100000 in
set_option maxHeartbeats 4000000 in
theorem step_sooner (p a : Int) (w : World) (p1 : -9223372036854775808 ≤ p) (p2 : p ≤ 9223372036854775807) (a1 : -9223372036854775808 ≤ a) (a2 : a ≤ 9223372036854775807) (h : ¬ a = 0) (h' : ¬ p = 0) (hlt : a < p) :
    Calls Yba.prog 3 #[.int .i64 p, .int .i64 a] w fun e w' => e = .returned (.bool true) ∧ Below w.heap.size w w' := by
  have HH : ((true = true ∧ a ≠ 0 ∧ (p = 0 ∨ a < p) ∧ a = a) ∨ (true = false ∧ (a = 0 ∨ (p ≠ 0 ∧ ¬ a < p)) ∧ a = p)) := .inl ⟨rfl, h, .inr hlt, rfl⟩
  have SET := hid (fun (E : Nat) (w : World) (hx : Nx E p w) => set_any E a p w hx true a HH)
  have AP := hid (fun (w : World) => at_any p w p1 p2)
  have AA := hid (fun (w : World) => at_any a w a1 a2)
  have EQ := hid (fun (l l' : Value) (w : World) => equal_same (a % 1000000000) (a / 1000000000) l l' w (by omega) (by omega))
  clear HH p1 p2 a1 a2
  have t1 : (a != 0) = true := by simpa using h
  have t2 : (p == 0) = false := by simpa using h'
  clear h h'
  go_enter Yba.func3, Yba.ntmps3
  go_wp2_with fail
  refine Calls.mono (AP.out _) ?_
  rintro e w1 ⟨rfl, hb1⟩
  have N1 := hid (nx_new w1 p (.int .i32 0) (.int .u32 0) (.chan none))
  go_wp2_with fail
  refine Calls.mono (AA.out _) ?_
  rintro e w2 ⟨rfl, hb2⟩
  have N2 := hid (N1.out.below hb2)
  obtain ⟨E, hE⟩ : ∃ E, w1.heap.size = E := ⟨_, rfl⟩
  rw [hE] at N2
  have L1 : Below w.heap.size w w2 := (hb1.trans ((Below.refl _ _).alloc hb1.size _)).trans (hb2.mono (by simp; have := hb1.size; omega))
  have hle : w.heap.size ≤ E := by rw [← hE]; exact hb1.size
  clear N1 hb1 hb2
  go_wp2_with fail
  refine Calls.mono (SET.out E _ N2.out) ?_
  rintro e w3 ⟨rfl, hn3, hk3⟩
  have N3 := hid hn3
  obtain ⟨c2, c3, c4⟩ := hn3.cells
  have L2 : Below w.heap.size w w3 := L1.trans (hk3.below hle L1.size)
  clear hn3 hk3 N2 L1 hE
  go_wp2
  go_region_held3 (fun w' => w'.cell? ⟨E, 2, none⟩ = some (.int .u64 (a % 1000000000)) ∧ w'.cell? ⟨E, 3, none⟩ = some (.int .i64 (a / 1000000000)) ∧ w'.cell? ⟨E, 4, none⟩ = some (.pointer none)) (first | go_keep | exact ⟨y2, y3, y4⟩)
    (first
    | (go_at_call 5; refine Calls.mono (AA.out _) ?_; rintro e w4 ⟨rfl, hb4⟩; obtain ⟨y2, y3, y4⟩ := (Nx.below (w := w3.drew) N3.out hb4).cells)
    | (go_at_call 7; refine Calls.mono (EQ.out _ _ _) ?_; rintro e w5 ⟨rfl, rfl⟩))
  all_goals
    go_wp2
    go_ret
    exact ⟨rfl, ((L2.drew.trans (hb4.mono L2.size)).alloc (Nat.le_trans L2.size hb4.size) _).alloc (by simp; have := Nat.le_trans L2.size hb4.size; omega) _⟩

set_option maxRecDepth 100000 in
set_option maxHeartbeats 4000000 in
theorem step_later (p a : Int) (w : World) (p1 : -9223372036854775808 ≤ p) (p2 : p ≤ 9223372036854775807) (a1 : -9223372036854775808 ≤ a) (a2 : a ≤ 9223372036854775807) (h : ¬ a = 0) (h' : ¬ p = 0) (hlt : p ≤ a) :
    Calls Yba.prog 3 #[.int .i64 p, .int .i64 a] w fun e w' => e = .returned (.bool true) ∧ Below w.heap.size w w' := by
  have HH : ((false = true ∧ a ≠ 0 ∧ (p = 0 ∨ a < p) ∧ p = a) ∨ (false = false ∧ (a = 0 ∨ (p ≠ 0 ∧ ¬ a < p)) ∧ p = p)) := .inr ⟨rfl, .inr ⟨h', by omega⟩, rfl⟩
  have SET := hid (fun (E : Nat) (w : World) (hx : Nx E p w) => set_any E a p w hx false p HH)
  have AP := hid (fun (w : World) => at_any p w p1 p2)
  have AA := hid (fun (w : World) => at_any a w a1 a2)
  have EQ := hid (fun (l l' : Value) (w : World) => equal_same (p % 1000000000) (p / 1000000000) l l' w (by omega) (by omega))
  clear HH p1 p2 a1 a2
  have t1 : (a != 0) = true := by simpa using h
  have t2 : (p == 0) = false := by simpa using h'
  have t3 : decide (a < p) = false := decide_eq_false (by omega)
  clear h h'
  go_enter Yba.func3, Yba.ntmps3
  go_wp2_with fail
  refine Calls.mono (AP.out _) ?_
  rintro e w1 ⟨rfl, hb1⟩
  have N1 := hid (nx_new w1 p (.int .i32 0) (.int .u32 0) (.chan none))
  go_wp2_with fail
  refine Calls.mono (AA.out _) ?_
  rintro e w2 ⟨rfl, hb2⟩
  have N2 := hid (N1.out.below hb2)
  obtain ⟨E, hE⟩ : ∃ E, w1.heap.size = E := ⟨_, rfl⟩
  rw [hE] at N2
  have L1 : Below w.heap.size w w2 := (hb1.trans ((Below.refl _ _).alloc hb1.size _)).trans (hb2.mono (by simp; have := hb1.size; omega))
  have hle : w.heap.size ≤ E := by rw [← hE]; exact hb1.size
  clear N1 hb1 hb2
  go_wp2_with fail
  refine Calls.mono (SET.out E _ N2.out) ?_
  rintro e w3 ⟨rfl, hn3, hk3⟩
  have N3 := hid hn3
  obtain ⟨c2, c3, c4⟩ := hn3.cells
  have L2 : Below w.heap.size w w3 := L1.trans (hk3.below hle L1.size)
  clear hn3 hk3 N2 L1 hE
  go_wp2
  go_region_held3 (fun w' => w'.cell? ⟨E, 2, none⟩ = some (.int .u64 (p % 1000000000)) ∧ w'.cell? ⟨E, 3, none⟩ = some (.int .i64 (p / 1000000000)) ∧ w'.cell? ⟨E, 4, none⟩ = some (.pointer none)) (first | go_keep | exact ⟨y2, y3, y4⟩)
    (first
    | (go_at_call 5; refine Calls.mono (AP.out _) ?_; rintro e w4 ⟨rfl, hb4⟩; obtain ⟨y2, y3, y4⟩ := (Nx.below (w := w3.drew) N3.out hb4).cells)
    | (go_at_call 7; refine Calls.mono (EQ.out _ _ _) ?_; rintro e w5 ⟨rfl, rfl⟩))
  all_goals
    go_wp2
    go_ret
    exact ⟨rfl, ((L2.drew.trans (hb4.mono L2.size)).alloc (Nat.le_trans L2.size hb4.size) _).alloc (by simp; have := Nat.le_trans L2.size hb4.size; omega) _⟩

theorem step_any (p a : Int) (w : World) (p1 : -9223372036854775808 ≤ p) (p2 : p ≤ 9223372036854775807) (a1 : -9223372036854775808 ≤ a) (a2 : a ≤ 9223372036854775807) :
    Calls Yba.prog 3 #[.int .i64 p, .int .i64 a] w fun e w' => e = .returned (.bool true) ∧ Below w.heap.size w w' := by
  by_cases h : a = 0
  · exact step_zero p a w p1 p2 a1 a2 h
  · by_cases h' : p = 0
    · exact step_first p a w p1 p2 a1 a2 h h'
    · by_cases hlt : a < p
      · exact step_sooner p a w p1 p2 a1 a2 h h' hlt
      · exact step_later p a w p1 p2 a1 a2 h h' (by omega)
end Go.Proofs.Ybulkbiyq
