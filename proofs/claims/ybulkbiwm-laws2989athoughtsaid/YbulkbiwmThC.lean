import Derived.Test.YbulkbiwmThA
/-! LawS2989AThought: the closure and sort.Search. -/
namespace Go.Proofs.Ybulkbiwm.Th
open Go.RowKit
set_option linter.unusedVariables false
attribute [local go_sem ↓] Go.wp_at_zero Go.wp_at_succ

set_option maxRecDepth 100000 in
set_option maxHeartbeats 1000000 in
/-- (*client).thought$1: does the place start at or behind 'ready'? -/
theorem closure_any (x1 x2 r b o n cap h : Nat) (x rd : Int) (w : World) (hh : h < n) (hn : n ≤ 1024)
    (h1 : w.cell? ⟨x1, 0, none⟩ = some (.slice (some ⟨b, o, none⟩) n cap)) (h2 : w.cell? ⟨x2, 0, none⟩ = some (.pointer (some ⟨r, 0, none⟩)))
    (h3 : w.cell? ⟨r, 11, none⟩ = some (.int .i64 rd)) (h4 : w.cell? ⟨b, o + h * 2, none⟩ = some (.int .i64 x)) :
    Calls Yba.prog 16 #[.int .i64 h, .pointer (some ⟨x1, 0, none⟩), .pointer (some ⟨x2, 0, none⟩)] w fun e w' => e = .returned (.bool (decide (rd ≤ x))) ∧ ∃ q, w.drewN q = w' := by
  have e1 : (h : Int) < (n : Int) := by omega
  have e0 : (0 : Int) ≤ (h : Int) := by omega
  go_enter Yba.func16, Yba.ntmps16
  go_wp2
  go_quiet (fail)
  go_wp2
  go_ret
  exact ⟨rfl, _, rfl⟩

set_option maxRecDepth 100000 in
set_option maxHeartbeats 1000000 in
/-- sort.Search over that closure: the least place that does. -/
theorem search_any (x1 x2 : Nat) (n : Nat) (at' : Nat → Int) (rd : Int) (w : World) (hn : n ≤ 1024) (mono : ∀ a b, a ≤ b → b < n → at' a ≤ at' b)
    (hf : ∀ h, h < n → ∀ q, Calls Yba.prog 16 #[.int .i64 h, .pointer (some ⟨x1, 0, none⟩), .pointer (some ⟨x2, 0, none⟩)] (w.drewN q) fun e w' => e = .returned (.bool (decide (rd ≤ at' h))) ∧ ∃ m, (w.drewN q).drewN m = w') :
    Calls Yba.prog 15 #[.int .i64 n, .func (.func 16) #[] #[.pointer (some ⟨x1, 0, none⟩), .pointer (some ⟨x2, 0, none⟩)]] w fun e w' => ∃ i : Nat, i ≤ n ∧ (∀ j, j < i → at' j < rd) ∧ (i < n → rd ≤ at' i) ∧ e = .returned (.int .i64 i) ∧ ∃ q, w.drewN q = w' := by
  have HF : Hid _ := hf
  have HM : Hid _ := mono
  clear hf mono
  go_enter Yba.func15, Yba.ntmps15
  go_wp2
  go_loopw [5, 6] (fun si sj wr => ∃ i j q : Nat, i ≤ j ∧ j ≤ n ∧ si = .int .i64 i ∧ sj = .int .i64 j ∧ wr = w.drewN q ∧ Hid (∀ k, k < i → at' k < rd) ∧ Hid (j < n → rd ≤ at' j))
    (fun si sj _ => (intOf sj).toNat - (intOf si).toNat)
  case atStart => exact ⟨0, n, 0, Nat.zero_le _, Nat.le_refl _, rfl, rfl, rfl, fun k hk => by omega, fun h => by omega⟩
  case round =>
    obtain ⟨i, j, q, hij, hj, rfl, rfl, rfl, hlo, hhi⟩ := hrel
    by_cases hlt : i < j
    · obtain ⟨m, hmi, hmj, em⟩ : ∃ m : Nat, i ≤ m ∧ m < j ∧ ((i : Int) + (j : Int)) / 2 = (m : Int) := ⟨(i + j) / 2, by omega, by omega, by omega⟩
      have HB := HF.out m (by omega) q
      have EM : Hid _ := em
      clear em
      by_cases hp : rd ≤ at' m
      · have hd : decide (rd ≤ at' m) = true := by simpa using hp
        rw [hd] at HB
        have H1 : Hid (j < n → rd ≤ at' j) := hhi
        have H2 : Hid (rd ≤ at' m) := hp
        have HBH : Hid _ := HB
        clear hd hp HB hhi
        go_wp2_with fail
        rw [EM.out]
        refine Calls.mono HBH ?_
        rintro e w' ⟨rfl, mq, rfl⟩
        go_wp2
        go_roundw
        case rel => exact ⟨i, m, q + mq, hmi, by omega, rfl, rfl, rfl, hlo, fun _ => H2.out⟩
        case measure => simp [intOf]; omega
      · have hd : decide (rd ≤ at' m) = false := by simpa using hp
        rw [hd] at HB
        have H1 : Hid (j < n → rd ≤ at' j) := hhi
        have H2 : Hid (at' m < rd) := by unfold Hid; omega
        have HBH : Hid _ := HB
        clear hd hp HB hhi
        go_wp2_with fail
        rw [EM.out]
        refine Calls.mono HBH ?_
        rintro e w' ⟨rfl, mq, rfl⟩
        go_wp2
        go_roundw
        case rel => exact ⟨m + 1, j, q + mq, by omega, hj, by go_num, rfl, rfl, fun k hk => Int.lt_of_le_of_lt (HM.out k m (by omega) (by omega)) H2.out, H1.out⟩
        case measure => simp [intOf]; omega
    · have hij' : i = j := by omega
      have H1 : Hid (i < n → rd ≤ at' i) := by rw [hij']; exact hhi
      clear hij' hhi
      go_wp2
      go_ret
      exact ⟨i, by omega, hlo, H1.out, rfl, _, rfl⟩
end Go.Proofs.Ybulkbiwm.Th
