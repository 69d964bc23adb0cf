import Derived.Test.YbulkbjauLawC
/-! LawS2997AHandOn: finish, either way; the lock taken and let go. -/
namespace Go.Proofs.Ybulkbjau
open Go.RowKit Go.MuLone
set_option linter.unusedVariables false

/-- The two ways behind finish. -/
def Way (len np t tc : Nat) (held : Int) (sz : Nat) (held' : Int) (vsB : List Int) (vsQ : Option (List Int)) : Prop :=
  (∃ c, tc = c + 1 ∧ t < len ∧ len = sz ∧ held' = wrap64 (held - 1) ∧ vsB = vB np ++ [(t : Int) * 100] ∧ vsQ = some (vT t c)) ∨
  (tc = 0 ∧ sz = (if t < len then len - 1 else len) ∧ held = held' ∧ vsB = vB np ∧ vsQ = none)
theorem Way.hand {len np t tc : Nat} {held : Int} (c : Nat) (h : tc = c + 1) (k : t < len) : Way len np t tc held len (wrap64 (held - 1)) (vB np ++ [(t : Int) * 100]) (some (vT t c)) := .inl ⟨c, h, k, rfl, rfl, rfl, rfl⟩
theorem Way.drop {len np t tc : Nat} {held : Int} (h : tc = 0) : Way len np t tc held (if t < len then len - 1 else len) held (vB np) none := .inr ⟨h, rfl, rfl, rfl, rfl⟩

theorem af_any {B N len np t tc : Nat} {held : Int} {cnt : Nat → Nat} {w0 w : World} (h : Ks B (B + 1) (N + 1) N N len np held cnt len w) (hbel : Below B w0 w) (hBN : B ≤ N) (hBw : B ≤ w.heap.size) (hm : len ≤ 1024) (ht : t ≤ len) (htc : tc = if t < len then cnt t else 0) (hnp : np < 4) :
    Calls Yba.prog 9 #[.pointer (some ⟨N + 1, 0, none⟩), .int .i64 t] w fun e w' => e = .returned (.tuple #[]) ∧ Below B w0 w' ∧ ∃ sz held' vsB vsQ, Way len np t tc held sz held' vsB vsQ ∧ Af B (B + 1) (N + 1) N len sz held' cnt t vsB vsQ w' := by
  by_cases hh : 0 < tc
  · obtain ⟨c, hc⟩ : ∃ c, tc = c + 1 := ⟨tc - 1, by omega⟩
    have htl : t < len := by
      rcases Nat.lt_or_ge t len with e | e
      · exact e
      · rw [if_neg (by omega)] at htc; omega
    rw [if_pos htl] at htc
    refine (af_hand h hm htl (by omega : cnt t = c + 1) hnp (by omega) hBN hBN).mono ?_
    rintro e w' ⟨rfl, ha, S, F, hS⟩
    exact ⟨rfl, below_fr hbel hBw F hS, _, _, _, _, Way.hand c hc htl, ha⟩
  · refine (af_drop h hm ht (fun e => by rw [if_pos e] at htc; omega) (by omega) hBN).mono ?_
    rintro e w' ⟨rfl, ha, S, F, hS⟩
    exact ⟨rfl, below_fr hbel hBw F hS, _, _, _, _, Way.drop (by omega), ha⟩

/-- The lock taken and let go: nothing has turned. -/
theorem fr_lock {b i : Nat} {A : Array Value} {T : TypeId} {w : World} (h : w.heap[b]? = some (.cells A T (0, 0))) (hi : A[i]? = some (.int .i32 0)) (u : Value) :
    Fr (fun _ => False) w ((w.setCell ⟨b, i, none⟩ u).setCell ⟨b, i, none⟩ (.int .i32 0)) := by
  have f : Fr (fun k => k = b) w ((w.setCell ⟨b, i, none⟩ u).setCell ⟨b, i, none⟩ (.int .i32 0)) := ((Fr.refl (fun k => k = b) w).setCell (p := ⟨b, i, none⟩) (.inl rfl) _).setCell (p := ⟨b, i, none⟩) (.inl rfl) _
  refine ⟨f.os, f.tape, f.output, f.size, fun k hk _ => ?_⟩
  by_cases e : k = b
  · subst e
    rw [heap_setCell_same _ _ _ _ _ _ (heap_setCell_same w k i A T u h), Array.setIfInBounds_setIfInBounds, h]
    congr 2
    obtain ⟨hlt, he⟩ := Array.getElem?_eq_some_iff.mp hi
    apply Array.ext_getElem?
    intro j
    by_cases ej : i = j
    · subst ej
      rw [Array.getElem?_setIfInBounds_self_of_lt hlt, hi]
    · rw [Array.getElem?_setIfInBounds_ne ej]
  · exact f.block k hk e
end Go.Proofs.Ybulkbjau
