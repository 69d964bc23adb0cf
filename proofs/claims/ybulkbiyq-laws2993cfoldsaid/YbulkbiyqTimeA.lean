import Derived.Test.YbulkbiyqRows
import Derived.Test.YbulkbiyqBits
import Derived.WalkKit
import Derived.WalkSpells
import Derived.WalkLawsBesides
/-! Times without a monotonic reading: sec, nsec, IsZero, Before, Equal. -/
namespace Go.Proofs.Ybulkbiyq
open Go.RowKit
set_option linter.unusedVariables false

set_option maxRecDepth 100000 in
set_option maxHeartbeats 1000000 in
theorem nsec_any (b o : Nat) (wl : Int) (w : World) (h1 : 0 ≤ wl) (h2 : wl < 1000000000) (h : w.cell? ⟨b, o, none⟩ = some (.int .u64 wl)) :
    Calls Yba.prog 13 #[.pointer (some ⟨b, o, none⟩)] w fun e w' => e = .returned (.int .i32 wl) ∧ w = w' := by
  have hm := mask30 wl h1 h2
  go_enter Yba.func13, Yba.ntmps13
  go_wp2
  go_ret
  exact ⟨rfl, rfl⟩

set_option maxRecDepth 100000 in
set_option maxHeartbeats 1000000 in
theorem sec_any (b o : Nat) (wl ex : Int) (w : World) (h1 : 0 ≤ wl) (h2 : wl < 1000000000) (h : w.cell? ⟨b, o, none⟩ = some (.int .u64 wl)) (h' : w.cell? ⟨b, o + 1, none⟩ = some (.int .i64 ex)) :
    Calls Yba.prog 12 #[.pointer (some ⟨b, o, none⟩)] w fun e w' => e = .returned (.int .i64 ex) ∧ w = w' := by
  have hm := top0 wl h1 h2
  go_enter Yba.func12, Yba.ntmps12
  go_wp2
  go_ret
  exact ⟨rfl, rfl⟩

set_option maxRecDepth 100000 in
set_option maxHeartbeats 1000000 in
theorem isZero_yes (l : Value) (w : World) :
    Calls Yba.prog 8 #[.agg #[.int .u64 0, .int .i64 0, l]] w fun e w' => e = .returned (.bool true) ∧ w.alloc (.cells #[.int .u64 0, .int .i64 0, l] 26) = w' := by
  go_enter Yba.func8, Yba.ntmps8
  go_wp2
  go_ret
  exact ⟨rfl, rfl⟩

set_option maxRecDepth 100000 in
set_option maxHeartbeats 1000000 in
theorem isZero_no (wl ex : Int) (l : Value) (w : World) (h : ¬ (wl = 0 ∧ ex = 0)) :
    Calls Yba.prog 8 #[.agg #[.int .u64 wl, .int .i64 ex, l]] w fun e w' => e = .returned (.bool false) ∧ w.alloc (.cells #[.int .u64 wl, .int .i64 ex, l] 26) = w' := by
  by_cases h0 : wl = 0
  · subst h0
    have h1 : (ex == 0) = false := by simpa using h
    clear h
    go_enter Yba.func8, Yba.ntmps8
    go_wp2
    go_ret
    exact ⟨rfl, rfl⟩
  · have h1 : (wl == 0) = false := by simpa using h0
    clear h h0
    go_enter Yba.func8, Yba.ntmps8
    go_wp2
    go_ret
    exact ⟨rfl, rfl⟩

set_option maxRecDepth 100000 in
set_option maxHeartbeats 1000000 in
theorem before_any (wl ex wl' ex' : Int) (l l' : Value) (w : World) (h1 : 0 ≤ wl) (h2 : wl < 1000000000) (h3 : 0 ≤ wl') (h4 : wl' < 1000000000) (B : Bool) (H : Hid (B = true ↔ (ex < ex' ∨ (ex = ex' ∧ wl < wl')))) :
    Calls Yba.prog 10 #[.agg #[.int .u64 wl, .int .i64 ex, l], .agg #[.int .u64 wl', .int .i64 ex', l']] w fun e w' => e = .returned (.bool B) ∧ (w.alloc (.cells #[.int .u64 wl, .int .i64 ex, l] 26)).alloc (.cells #[.int .u64 wl', .int .i64 ex', l'] 26) = w' := by
  have hm := top00 wl wl' h1 h2 h3 h4
  have e1 := top0 wl h1 h2
  have e2 := top0 wl' h3 h4
  have e3 := mask30 wl h1 h2
  have e4 := mask30 wl' h3 h4
  by_cases c1 : ex < ex'
  · have hB : B = true := H.out.2 (.inl c1)
    subst hB
    go_enter Yba.func10, Yba.ntmps10
    go_wp2
    go_ret
    exact ⟨rfl, rfl⟩
  · by_cases c2 : ex = ex'
    · subst c2
      by_cases c3 : wl < wl'
      · have hB : B = true := H.out.2 (.inr ⟨rfl, c3⟩)
        subst hB
        go_enter Yba.func10, Yba.ntmps10
        go_wp2
        go_ret
        exact ⟨rfl, rfl⟩
      · have hB : B = false := by
          cases B with
          | false => rfl
          | true => rcases H.out.1 rfl with h | ⟨_, h⟩ <;> omega
        subst hB
        go_enter Yba.func10, Yba.ntmps10
        go_wp2
        go_ret
        exact ⟨rfl, rfl⟩
    · have hB : B = false := by
        cases B with
        | false => rfl
        | true => rcases H.out.1 rfl with h | ⟨h, _⟩ <;> omega
      subst hB
      have c3 : (ex == ex') = false := by simpa using c2
      clear c2
      go_enter Yba.func10, Yba.ntmps10
      go_wp2
      go_ret
      exact ⟨rfl, rfl⟩

set_option maxRecDepth 100000 in
set_option maxHeartbeats 1000000 in
theorem equal_same (wl ex : Int) (l l' : Value) (w : World) (h1 : 0 ≤ wl) (h2 : wl < 1000000000) :
    Calls Yba.prog 7 #[.agg #[.int .u64 wl, .int .i64 ex, l], .agg #[.int .u64 wl, .int .i64 ex, l']] w fun e w' => e = .returned (.bool true) ∧ (w.alloc (.cells #[.int .u64 wl, .int .i64 ex, l] 26)).alloc (.cells #[.int .u64 wl, .int .i64 ex, l'] 26) = w' := by
  have hm := top00 wl wl h1 h2 h1 h2
  have e1 := top0 wl h1 h2
  have e3 := mask30 wl h1 h2
  go_enter Yba.func7, Yba.ntmps7
  go_wp2
  go_ret
  exact ⟨rfl, rfl⟩
end Go.Proofs.Ybulkbiyq
