import Derived.Test.YbulkbiwmThN
import Derived.Test.YbulkbiwmThU
import Derived.Test.YbulkbiwmThX
import Derived.Test.YbulkbiwmThY
/-! LawS2989AThought: the model and the code say the same. -/
namespace Go.Proofs.Ybulkbiwm.Th
open Go.RowKit
set_option linter.unusedVariables false

theorem scan_exists (at' : Nat → Int) (n : Nat) (rd : Int) (fr : Nat) (h : fr ≤ n) : ∃ k, IsScan at' n rd fr k := by
  have : ∀ d, ∀ i, n - i = d → fr ≤ i → i ≤ n → (∀ j, fr ≤ j → j < i → at' j < rd) → ∃ k, IsScan at' n rd fr k := by
    intro d
    induction d with
    | zero => intro i hd h1 h2 h3; exact ⟨i, h1, h2, h3, fun h => by omega⟩
    | succ d ih =>
      intro i hd h1 h2 h3
      by_cases q : at' i < rd
      · refine ih (i + 1) (by omega) (by omega) (by omega) (fun j a b => ?_)
        rcases Nat.lt_or_ge j i with g | g
        · exact h3 j a g
        · have e : j = i := by omega
          rw [e]
          exact q
      · exact ⟨i, h1, h2, h3, fun _ => by omega⟩
  exact this (n - fr) fr rfl (Nat.le_refl _) h (fun j a b => by omega)

theorem inc_cases (q : Cf) : q.inc = 0 ∨ q.inc = 1 := by
  unfold Cf.inc
  cases q.use <;> simp

/-- What the two say of each other. -/
def Same (q : Cf) (at' : Nat → Int) (en : Int) (fr : Nat) (nw wt : Int) : Prop :=
  ∃ (res : Bool) (fr' : Nat) (nw' wt' m : Int), 0 ≤ m ∧ m ≤ 2 ∧
    (∀ w : World, q.b < w.heap.size → Pm q.b q.n at' w → Calls Yba.prog 7 #[.slice (some ⟨q.b, 0, none⟩) q.n q.n, .int .i64 en, .int .i64 q.ni, .int .i64 fr, .int .i64 nw, .int .i64 wt, .int .i64 q.rd] w
      fun e w' => e = .returned (.agg #[.bool res, .int .i64 fr', .int .i64 nw', .int .i64 wt', .int .i64 m]) ∧ Below w.heap.size w w') ∧
    (∀ w : World, St q w fr nw wt 0 → Pl q at' w → Calls Yba.prog 8 #[.pointer (some ⟨q.cl, 0, none⟩)] w
      fun e w' => e = .returned (.bool res) ∧ St q w' fr' nw' wt' (m * q.inc) ∧ Kp q w w')

theorem same_any (q : Cf) (ok : q.Ok) (at' : Nat → Int) (en : Int) (fr : Nat) (nw wt : Int) (hfr : fr ≤ q.n) (hen : q.start + q.by' = en) (mono : ∀ a b, a ≤ b → b < q.n → at' a ≤ at' b) (b1 : wt ≤ 9223372036854775807) : Same q at' en fr nw wt := by
  have hn := ok.n
  have hni := ok.ni
  have hinc := inc_cases q
  by_cases h0 : wt ≤ 0
  · by_cases h1 : q.rd ≤ nw
    · refine ⟨true, fr, nw, wt, 0, by omega, by omega, fun w _ _ => model_b1 q.b q.n q.ni fr en nw wt q.rd w hn hni hfr h0 h1, fun w s p => ?_⟩
      rw [Int.zero_mul]
      exact thought_b1 q ok at' w fr nw wt 0 s p hfr h0 h1
    · by_cases h2 : en ≤ q.rd
      · refine ⟨false, fr, nw, wt, 0, by omega, by omega, fun w _ _ => model_b2 q.b q.n q.ni fr en nw wt q.rd w hn hni hfr h0 (by omega) h2, fun w s p => ?_⟩
        rw [Int.zero_mul]
        exact thought_b2 q ok at' w fr nw wt 0 s p hfr h0 (by omega) en hen h2
      · obtain ⟨k0, hk0⟩ := scan_exists at' q.n q.rd fr hfr
        obtain ⟨m, hm⟩ : ∃ m : Int, (fr < k0 ∧ m = 0 + 1) ∨ (k0 = fr ∧ m = 0) := by
          by_cases g : fr < k0
          · exact ⟨0 + 1, .inl ⟨g, rfl⟩⟩
          · exact ⟨0, .inr ⟨by have := hk0.1; omega, rfl⟩⟩
        refine ⟨true, k0, q.rd, wt, m, by omega, by omega, fun w hb p => model_b3 q.b q.n q.ni fr en nw wt q.rd w hn hni hfr h0 (by omega) (by omega) at' hb p k0 hk0 m hm, fun w s p => ?_⟩
        refine (thought_b3 q ok at' w fr nw wt 0 s p hfr h0 (by omega) en hen (by omega) mono (by omega) (by omega)).mono ?_
        rintro e w' ⟨he, k, hk, hs, hkp⟩
        have ek := hk.unique hk0
        subst ek
        have ec : 0 + q.incIf fr k = m * q.inc := by
          unfold Cf.incIf
          rcases hm with ⟨a, rfl⟩ | ⟨a, rfl⟩
          · rw [if_pos a]; omega
          · rw [if_neg (by omega)]; omega
        rw [ec] at hs
        exact ⟨he, hs, hkp⟩
  · by_cases hw : (q.ni : Int) - (fr : Int) < wt
    · obtain ⟨wt', H⟩ : ∃ wt' : Int, (0 < (q.ni : Int) - (fr : Int) ∧ wt' = wt - ((q.ni : Int) - (fr : Int))) ∨ ((q.ni : Int) - (fr : Int) ≤ 0 ∧ wt' = wt) := by
        by_cases g : 0 < (q.ni : Int) - (fr : Int)
        · exact ⟨_, .inl ⟨g, rfl⟩⟩
        · exact ⟨_, .inr ⟨by omega, rfl⟩⟩
      refine ⟨false, fr, nw, wt', 0, by omega, by omega, fun w _ _ => model_wait q.b q.n q.ni fr en nw wt q.rd w hn hni hfr b1 (by omega) hw wt' H, fun w s p => ?_⟩
      rw [Int.zero_mul]
      exact thought_wait q ok at' w fr nw wt 0 s p hfr b1 (by omega) hw wt' H
    · obtain ⟨k, rfl⟩ : ∃ k : Nat, wt = (k : Int) := ⟨wt.toNat, by omega⟩
      have hk0 : 0 < k := by omega
      have hk1 : fr + k ≤ q.ni := by omega
      have hc1 : (0 : Int) + q.inc = 1 * q.inc := by omega
      by_cases hin : fr + k < q.n
      · by_cases h1 : q.rd ≤ at' (fr + k)
        · exact ⟨true, fr + k, at' (fr + k), 0, 1, by omega, by omega, fun w hb p => model_in_b1 q.b q.n q.ni fr k en nw q.rd w hn hni hk0 hk1 at' hb p _ hin rfl h1,
            fun w s p => thought_in_b1 q ok at' w fr k nw 0 s p hk0 hk1 (by omega) (by omega) (fr + k) rfl _ hc1 (by omega) (by omega) _ hin rfl h1⟩
        · by_cases h2 : en ≤ q.rd
          · exact ⟨false, fr + k, at' (fr + k), 0, 1, by omega, by omega, fun w hb p => model_in_b2 q.b q.n q.ni fr k en nw q.rd w hn hni hk0 hk1 at' hb p _ hin rfl (by omega) h2,
              fun w s p => thought_in_b2 q ok at' w fr k nw 0 s p hk0 hk1 (by omega) (by omega) (fr + k) rfl _ hc1 (by omega) (by omega) _ hin rfl (by omega) en hen h2⟩
          · obtain ⟨k0, hsc⟩ := scan_exists at' q.n q.rd (fr + k) (by omega)
            obtain ⟨m, hm⟩ : ∃ m : Int, (fr + k < k0 ∧ m = 1 + 1) ∨ (k0 = fr + k ∧ m = 1) := by
              by_cases g : fr + k < k0
              · exact ⟨1 + 1, .inl ⟨g, rfl⟩⟩
              · exact ⟨1, .inr ⟨by have := hsc.1; omega, rfl⟩⟩
            refine ⟨true, k0, q.rd, 0, m, by omega, by omega, fun w hb p => model_in_b3 q.b q.n q.ni fr k en nw q.rd w hn hni hk0 hk1 at' hb p _ hin rfl (by omega) (by omega) k0 hsc m hm, fun w s p => ?_⟩
            refine (thought_in_b3 q ok at' w fr k nw 0 s p hk0 hk1 (by omega) (by omega) (fr + k) rfl _ hc1 (by omega) (by omega) _ hin rfl (by omega) en hen (by omega) mono).mono ?_
            rintro e w' ⟨he, k', hk', hs, hkp⟩
            have ek := hk'.unique hsc
            subst ek
            have ec : 1 * q.inc + q.incIf (fr + k) k' = m * q.inc := by
              unfold Cf.incIf
              rcases hm with ⟨a, rfl⟩ | ⟨a, rfl⟩
              · rw [if_pos a]; omega
              · rw [if_neg (by omega)]; omega
            rw [ec] at hs
            exact ⟨he, hs, hkp⟩
      · by_cases h1 : q.rd ≤ en
        · exact ⟨true, fr + k, en, 0, 1, by omega, by omega, fun w hb p => model_out_b1 q.b q.n q.ni fr k en nw q.rd w hn hni hk0 hk1 at' hb p _ (by omega) rfl h1,
            fun w s p => thought_out_b1 q ok at' w fr k nw 0 s p hk0 hk1 (by omega) (by omega) (fr + k) rfl _ hc1 (by omega) (by omega) _ (by omega) hen h1⟩
        · exact ⟨false, fr + k, en, 0, 1, by omega, by omega, fun w hb p => model_out_b2 q.b q.n q.ni fr k en nw q.rd w hn hni hk0 hk1 at' hb p _ (by omega) rfl (by omega) (by omega),
            fun w s p => thought_out_b2 q ok at' w fr k nw 0 s p hk0 hk1 (by omega) (by omega) (fr + k) rfl _ hc1 (by omega) (by omega) _ (by omega) hen (by omega) en hen (by omega)⟩
end Go.Proofs.Ybulkbiwm.Th
