import Derived.Test.YbulkbiyqTimeA
/-! zzs2993cat: the zero time plus n nanoseconds. -/
namespace Go.Proofs.Ybulkbiyq
open Go.RowKit
set_option linter.unusedVariables false

set_option maxRecDepth 100000 in
set_option maxHeartbeats 1000000 in
theorem addSec_any (b : Nat) (wl d : Int) (w : World) (h1 : 0 ≤ wl) (h2 : wl < 1000000000) (d1 : -10000000000 ≤ d) (d2 : d ≤ 10000000000)
    (h : w.cell? ⟨b, 0, none⟩ = some (.int .u64 wl)) (h' : w.cell? ⟨b, 1, none⟩ = some (.int .i64 0)) (f : w.frozen? ⟨b, 1, none⟩ = false) :
    Calls Yba.prog 14 #[.pointer (some ⟨b, 0, none⟩), .int .i64 d] w fun e w' => e = .returned (.tuple #[]) ∧ w.setCell ⟨b, 1, none⟩ (.int .i64 d) = w' := by
  have m1 := top0 wl h1 h2
  by_cases hd : 0 < d
  · go_enter Yba.func14, Yba.ntmps14
    go_wp2
    first | go_end0 | refine bodyPost_ret (results_none rfl _ _ _) rfl ?_
    exact ⟨rfl, rfl⟩
  · go_enter Yba.func14, Yba.ntmps14
    go_wp2
    first | go_end0 | refine bodyPost_ret (results_none rfl _ _ _) rfl ?_
    exact ⟨rfl, rfl⟩

theorem andNot00 : bits .andNot .u64 0 1073741823 = 0 := by
  have h := u64_andNot_nat 0 1073741823 (by omega) (by omega)
  simpa using h

theorem below4 (w : World) (a b c d : Obj) : Below w.heap.size w ((((w.alloc a).alloc b).alloc c).alloc d) :=
  ((((Below.refl _ _).alloc (Nat.le_refl _) _).alloc (by simp) _).alloc (by simp; omega) _).alloc (by simp; omega) _
theorem ret_time {a b a' b' : Int} (h : a = a') (k : b = b') : Ending.returned (.agg #[.int .u64 a, .int .i64 b, .pointer none]) = .returned (.agg #[.int .u64 a', .int .i64 b', .pointer none]) := by
  subst h k
  rfl

set_option maxRecDepth 100000 in
set_option maxHeartbeats 1000000 in
theorem at_nonneg (n : Int) (w : World) (h0 : 0 ≤ n) (h1 : n ≤ 9223372036854775807) :
    Calls Yba.prog 5 #[.int .i64 n] w fun e w' => e = .returned (.agg #[.int .u64 (n % 1000000000), .int .i64 (n / 1000000000), .pointer none]) ∧ Below w.heap.size w w' := by
  have m1 := top0 (n % 1000000000) (by omega) (by omega)
  have m2 := or0 (n % 1000000000) (by omega) (by omega)
  have m3 := andNot00
  have m4 := mask30 0 (by omega) (by omega)
  by_cases hd : 0 < n / 1000000000
  · go_enter Yba.func5, Yba.ntmps5
    go_wp2
    go_end0
    go_wp2
    refine bodyPost_ret (v := .agg #[.int .u64 (n % 1000000000), .int .i64 (n / 1000000000), .pointer none]) (by simp [results, Yba.results9, go_sem]) rfl ?_
    go_wp2
    exact bodyPost_ret (v := .agg #[.int .u64 (n % 1000000000), .int .i64 (n / 1000000000), .pointer none]) (by simp [results, Yba.results5, go_sem]) rfl ⟨rfl, below4 _ _ _ _ _⟩
  · go_enter Yba.func5, Yba.ntmps5
    go_wp2
    go_end0
    go_wp2
    refine bodyPost_ret (v := .agg #[.int .u64 (n % 1000000000), .int .i64 (n / 1000000000), .pointer none]) (by simp [results, Yba.results9, go_sem]) rfl ?_
    go_wp2
    exact bodyPost_ret (v := .agg #[.int .u64 (n % 1000000000), .int .i64 (n / 1000000000), .pointer none]) (by simp [results, Yba.results5, go_sem]) rfl ⟨rfl, below4 _ _ _ _ _⟩

theorem tdiv_neg (n : Int) (h0 : n < 0) (h1 : -9223372036854775808 ≤ n) : ∃ q r : Int, n.tdiv 1000000000 = q ∧ n.tmod 1000000000 = r ∧ n = 1000000000 * q + r ∧ -1000000000 < r ∧ r ≤ 0 ∧ -9223372037 ≤ q ∧ q ≤ 0 := by
  obtain ⟨m, rfl⟩ : ∃ m : Nat, n = -(m : Int) := ⟨n.natAbs, by omega⟩
  refine ⟨-((m / 1000000000 : Nat) : Int), -((m % 1000000000 : Nat) : Int), ?_, ?_, by omega, by omega, by omega, by omega, by omega⟩
  · rw [Int.neg_tdiv]; rfl
  · rw [Int.neg_tmod]; rfl

set_option maxRecDepth 100000 in
set_option maxHeartbeats 1000000 in
theorem at_neg (n : Int) (w : World) (h0 : n < 0) (h1 : -9223372036854775808 ≤ n) :
    Calls Yba.prog 5 #[.int .i64 n] w fun e w' => e = .returned (.agg #[.int .u64 (n % 1000000000), .int .i64 (n / 1000000000), .pointer none]) ∧ Below w.heap.size w w' := by
  obtain ⟨q, r, hq, hr, e, r1, r2, q1, q2⟩ := tdiv_neg n h0 h1
  have E : Hid _ := e
  clear e
  have m3 := andNot00
  have m4 := mask30 0 (by omega) (by omega)
  by_cases hz : r = 0
  · have HZ : Hid _ := hz
    subst hz
    have m1 := top0 0 (by omega) (by omega)
    have m2 := or0 0 (by omega) (by omega)
    go_enter Yba.func5, Yba.ntmps5
    go_wp2
    go_end0
    go_wp2
    refine bodyPost_ret (v := .agg #[.int .u64 0, .int .i64 q, .pointer none]) (by simp [results, Yba.results9, go_sem]) rfl ?_
    go_wp2
    exact bodyPost_ret (v := .agg #[.int .u64 0, .int .i64 q, .pointer none]) (by simp [results, Yba.results5, go_sem]) rfl ⟨ret_time (by have := E.out; omega) (by have := E.out; omega), below4 _ _ _ _ _⟩
  · have m1 := top0 (r + 1000000000) (by omega) (by omega)
    have m2 := or0 (r + 1000000000) (by omega) (by omega)
    have hr0 : r < 0 := by omega
    clear hz
    go_enter Yba.func5, Yba.ntmps5
    go_wp2
    go_end0
    go_wp2
    refine bodyPost_ret (v := .agg #[.int .u64 (r + 1000000000), .int .i64 (q - 1), .pointer none]) (by simp [results, Yba.results9, go_sem]) rfl ?_
    go_wp2
    exact bodyPost_ret (v := .agg #[.int .u64 (r + 1000000000), .int .i64 (q - 1), .pointer none]) (by simp [results, Yba.results5, go_sem]) rfl ⟨ret_time (by have := E.out; omega) (by have := E.out; omega), below4 _ _ _ _ _⟩

/-- The zero time plus n nanoseconds, whatever n. -/
theorem at_any (n : Int) (w : World) (h1 : -9223372036854775808 ≤ n) (h2 : n ≤ 9223372036854775807) :
    Calls Yba.prog 5 #[.int .i64 n] w fun e w' => e = .returned (.agg #[.int .u64 (n % 1000000000), .int .i64 (n / 1000000000), .pointer none]) ∧ Below w.heap.size w w' := by
  by_cases h : 0 ≤ n
  · exact at_nonneg n w h h2
  · exact at_neg n w (by omega) h1
end Go.Proofs.Ybulkbiyq
