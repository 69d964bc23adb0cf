import Derived.Test.YbulkbjauQE
/-! queue[func()]: Pop of a queue that holds tasks, in one contract. -/
namespace Go.Proofs.Ybulkbjau
open Go.RowKit
set_option linter.unusedVariables false

theorem pop_any (A : Array Value) (T qb qo : Nat) (r : Value) (h : Nat) (xs : List (Nat × Nat)) (p : Nat × Nat) (hq : qo + 2 < A.size) (w : World)
    (hA : w.heap[qb]? = some (.cells (qput A qo r h (xs.length + 1)) T (0, 0))) (hr : RingOk r h (p :: xs) w) (hne : r.ownBlock ≠ some qb) :
    Calls Yba.prog 12 #[.pointer (some ⟨qb, qo, none⟩)] w fun e w' => e = .returned (.tuple #[tk p, .bool true]) ∧ ∃ r' h', Fr (fun k => k = qb ∨ r.ownBlock = some k) w w' ∧ RingOk r' h' xs w' ∧
      w'.heap[qb]? = some (.cells (qput A qo r' (h' : Nat) xs.length) T (0, 0)) ∧ (r'.ownBlock = r.ownBlock ∨ ∃ b, r'.ownBlock = some b ∧ w.heap.size ≤ b) := by
  rcases hr with ⟨_, _, h0⟩ | ⟨rb, L, R, rfl, hL, hB, hR, hn, hc⟩
  · cases h0
  have hne' : rb ≠ qb := fun e => hne (by simp [Value.ownBlock, e])
  have hp : R[h]? = some (tk p) := by have := hc 0 (by simp); simpa using this
  have hc' : ∀ i, i < xs.length → R[h + 1 + i]? = (xs[i]?).map tk := by
    intro i hi
    have := hc (i + 1) (by simp; omega)
    rw [show h + (i + 1) = h + 1 + i by omega] at this
    simpa using this
  have hw : ∀ k, (k = qb ∨ k = rb) → (k = qb ∨ (Value.slice (some ⟨rb, 0, none⟩) L L).ownBlock = some k) := by
    rintro k (e | e)
    · exact .inl e
    · exact .inr (by simp [Value.ownBlock, e])
  simp at hn hL
  have fin : ∀ (L : Nat) (R : Array Value) (hn : h + (xs.length + 1) ≤ L) (hc' : ∀ i, i < xs.length → R[h + 1 + i]? = (xs[i]?).map tk), nxt h L + xs.length ≤ L ∧ ∀ i, i < xs.length → (R.setIfInBounds h .nilFunc)[nxt h L + i]? = (xs[i]?).map tk := by
    intro L R hn hc'
    unfold nxt
    by_cases e : h + 1 = L
    · rw [if_pos e]
      exact ⟨by omega, fun i hi => by omega⟩
    · rw [if_neg e]
      exact ⟨by omega, fun i hi => by rw [Array.getElem?_setIfInBounds_ne (by omega)]; exact hc' i hi⟩
  rcases hL with rfl | ⟨rfl, h8⟩
  · refine (pop16 A T qb qo rb h xs.length R p hq hR hn hp w hA hB hne').mono ?_
    rintro e w' ⟨rfl, hf, hB', hA'⟩
    obtain ⟨q1, q2⟩ := fin 16 R hn hc'
    exact ⟨rfl, _, nxt h 16, hf.mono (fun k _ => hw k), .inr ⟨rb, 16, _, rfl, .inl rfl, hB', by simpa using hR, q1, q2⟩, hA', .inl rfl⟩
  · by_cases h9 : xs.length = 8
    · rw [h9] at hA
      refine (pop32s A T qb qo rb h R (xs.map tk) p hq hR (by omega) hp (by simpa using h9) (by intro v hv; simp at hv; obtain ⟨a, b, _, rfl⟩ := hv; rfl) (fun i hi => by rw [hc' i (by omega)]; simp) w hA hB hne').mono ?_
      rintro e w' ⟨rfl, hf, rb', R', hsz, hR', hx', hB', hA'⟩
      refine ⟨rfl, _, 0, hf.mono (fun k _ => hw k), .inr ⟨rb', 16, R', rfl, .inl rfl, hB', hR', by omega, fun i hi => ?_⟩, by rw [h9]; exact hA', .inr ⟨rb', rfl, hsz⟩⟩
      rw [Nat.zero_add, hx' i (by omega)]
      simp
    · refine (pop32 A T qb qo rb h xs.length R p hq hR hn (by omega) hp w hA hB hne').mono ?_
      rintro e w' ⟨rfl, hf, hB', hA'⟩
      obtain ⟨q1, q2⟩ := fin 32 R hn hc'
      exact ⟨rfl, _, nxt h 32, hf.mono (fun k _ => hw k), .inr ⟨rb, 32, _, rfl, .inr ⟨rfl, by omega⟩, hB', by simpa using hR, q1, q2⟩, hA', .inl rfl⟩
end Go.Proofs.Ybulkbjau
