import Derived.Test.YbulkbjauQC
/-! queue[func()]: Push and Pop on a queue that holds tasks. -/
namespace Go.Proofs.Ybulkbjau
open Go.RowKit
set_option linter.unusedVariables false
attribute [local go_sem ↓] Go.wp_at_zero Go.wp_at_succ

/-- The ring r, head h, holds the tasks xs. -/
def RingOk (r : Value) (h : Nat) (xs : List (Nat × Nat)) (w : World) : Prop :=
  (r = .slice none 0 0 ∧ h = 0 ∧ xs = []) ∨ ∃ rb L R, r = .slice (some ⟨rb, 0, none⟩) L L ∧ (L = 16 ∨ (L = 32 ∧ 8 < xs.length)) ∧ w.heap[rb]? = some (.cells R 1 (0, 0)) ∧ R.size = L ∧ h + xs.length ≤ L ∧ ∀ i, i < xs.length → R[h + i]? = (xs[i]?).map tk

theorem RingOk.keep {r : Value} {h : Nat} {xs : List (Nat × Nat)} {w w' : World} {S : Nat → Prop} (k : RingOk r h xs w) (f : Fr S w w') (hs : ∀ b, r.ownBlock = some b → ¬ S b) : RingOk r h xs w' := by
  rcases k with k | ⟨rb, L, R, rfl, hL, hB, h1, h2, h3⟩
  · exact .inl k
  · exact .inr ⟨rb, L, R, rfl, hL, (f.block rb (lt_of_block hB) (hs rb rfl)).trans hB, h1, h2, h3⟩
theorem RingOk.lt {r : Value} {h : Nat} {xs : List (Nat × Nat)} {w : World} (k : RingOk r h xs w) (b : Nat) (hb : r.ownBlock = some b) : b < w.heap.size := by
  rcases k with ⟨rfl, _⟩ | ⟨rb, L, R, rfl, hL, hB, h1, h2, h3⟩
  · simp [Value.ownBlock] at hb
  · simp [Value.ownBlock] at hb; subst hb; exact lt_of_block hB

theorem push_any (A : Array Value) (T qb qo : Nat) (r : Value) (xs : List (Nat × Nat)) (p : Nat × Nat) (hq : qo + 2 < A.size) (hx : xs.length < 32) (w : World)
    (hA : w.heap[qb]? = some (.cells (qput A qo r 0 xs.length) T (0, 0))) (hr : RingOk r 0 xs w) (hne : r.ownBlock ≠ some qb) :
    Calls Yba.prog 7 #[.pointer (some ⟨qb, qo, none⟩), tk p] w fun e w' => e = .returned (.tuple #[]) ∧ ∃ r', Fr (fun k => k = qb ∨ r.ownBlock = some k) w w' ∧ RingOk r' 0 (xs ++ [p]) w' ∧
      w'.heap[qb]? = some (.cells (qput A qo r' 0 (xs.length + 1)) T (0, 0)) ∧ (r'.ownBlock = r.ownBlock ∨ ∃ b, r'.ownBlock = some b ∧ w.heap.size ≤ b) := by
  rcases hr with ⟨rfl, _, rfl⟩ | ⟨rb, L, R, rfl, hL, hB, hR, hn, hc⟩
  · refine (push_nil A T qb qo p hq w hA).mono ?_
    rintro e w' ⟨rfl, hf, rb, R, hrb, hR, h0, hB, hA'⟩
    refine ⟨rfl, _, hf.mono (fun k _ h => .inl h), .inr ⟨rb, 16, R, rfl, .inl rfl, hB, hR, by simp, ?_⟩, hA', .inr ⟨rb, rfl, hrb⟩⟩
    intro i hi
    simp at hi
    subst hi
    simpa using h0
  · have hne' : rb ≠ qb := fun e => hne (by simp [Value.ownBlock, e])
    by_cases hlt : xs.length < L
    · refine (push_room A T qb qo rb L xs.length R p hq (by omega) hR hlt w hA hB hne').mono ?_
      rintro e w' ⟨rfl, hf, hB', hA'⟩
      refine ⟨rfl, _, hf.mono (fun k _ h => ?_), .inr ⟨rb, L, _, rfl, ?_, hB', by simpa using hR, by simp; omega, ?_⟩, hA', .inl rfl⟩
      · rcases h with h | h
        · exact .inl h
        · exact .inr (by simp [Value.ownBlock, h])
      · rcases hL with h | ⟨h, h'⟩
        · exact .inl h
        · exact .inr ⟨h, by simp; omega⟩
      · intro i hi
        simp at hi
        by_cases hi' : i < xs.length
        · rw [Array.getElem?_setIfInBounds_ne (by omega), hc i hi', List.getElem?_append_left hi']
        · obtain rfl : i = xs.length := by omega
          rw [Nat.zero_add, Array.getElem?_setIfInBounds_self_of_lt (by omega)]
          simp
    · obtain ⟨rfl, hl⟩ : L = 16 ∧ xs.length = 16 := by omega
      rw [hl] at hA
      refine (push_full A T qb qo rb R (xs.map tk) p hq hR (by simpa using hl) (by intro v hv; simp at hv; obtain ⟨a, b, _, rfl⟩ := hv; rfl) (fun i hi => by rw [hc i (by omega)]; simp) w hA hB hne').mono ?_
      rintro e w' ⟨rfl, hf, rb', R', hrb, hR', h16, hp, hB', hA'⟩
      refine ⟨rfl, _, hf.mono (fun k _ h => .inl h), .inr ⟨rb', 32, R', rfl, .inr ⟨rfl, by simp; omega⟩, hB', hR', by simp; omega, ?_⟩, by rw [hl]; exact hA', .inr ⟨rb', rfl, hrb⟩⟩
      intro i hi
      simp at hi
      by_cases hi' : i < xs.length
      · rw [Nat.zero_add, h16 i (by omega), List.getElem?_append_left hi']; simp
      · obtain rfl : i = xs.length := by omega
        rw [Nat.zero_add]
        simp [hl, hp]

set_option maxRecDepth 100000 in
set_option maxHeartbeats 1000000 in
theorem pop_empty (A : Array Value) (T qb qo : Nat) (r : Value) (h : Int) (hq : qo + 2 < A.size) (w : World) (hA : w.heap[qb]? = some (.cells (qput A qo r h 0) T (0, 0))) :
    Calls Yba.prog 12 #[.pointer (some ⟨qb, qo, none⟩)] w fun e w' => e = .returned (.tuple #[.nilFunc, .bool false]) ∧ w' = w := by
  have c2 : w.cell? ⟨qb, qo + 2, none⟩ = some (.int .i64 0) := (cell_of hA (qo + 2)).trans (qput2 hq)
  clear hA
  go_enter Yba.func12, Yba.ntmps12
  go_wp2
  go_ret2
  exact ⟨rfl, rfl⟩
end Go.Proofs.Ybulkbjau
