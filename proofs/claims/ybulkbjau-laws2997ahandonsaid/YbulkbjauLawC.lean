import Derived.Test.YbulkbjauLawB
/-! LawS2997AHandOn: the state behind finish. -/
namespace Go.Proofs.Ybulkbjau
open Go.RowKit
set_option linter.unusedVariables false

def vT (t c : Nat) : List Int := (List.range c).map (fun (j : Nat) => (t : Int) * 100 + ((j : Int) + 1))
theorem vT_len (t c : Nat) : (vT t c).length = c := by simp [vT]
theorem vK_cons (t c : Nat) : vK t (c + 1) = ((t : Int) * 100) :: vT t c := by
  unfold vK vT
  rw [List.range_succ_eq_map]
  simp

theorem RingOk.shape {r : Value} {h : Nat} {xs : List (Nat × Nat)} {w : World} (k : RingOk r h xs w) : ∃ a l c, r = .slice a l c := by
  rcases k with ⟨rfl, _⟩ | ⟨rb, L, R, rfl, _⟩
  · exact ⟨_, _, _, rfl⟩
  · exact ⟨_, _, _, rfl⟩

/-- What key t holds behind finish: the tasks vs, or nothing. -/
def Left (lg : Nat) (o : Option Value) (vs : Option (List Int)) (rB : Value) (w : World) : Prop :=
  match vs with
  | none => o = none
  | some vs => ∃ r h ps, o = some (.agg #[r, .int .i64 ((h : Nat) : Int), .int .i64 vs.length]) ∧ RingOk r h ps w ∧ Tasks lg ps vs w ∧ ∀ b, r.ownBlock = some b → rB.ownBlock ≠ some b ∧ lg ≤ b
/-- Behind finish. -/
structure Af (lg pb kb mb m sz : Nat) (held : Int) (cnt : Nat → Nat) (t : Nat) (vsB : List Int) (vsQ : Option (List Int)) (w : World) : Prop where
  log : w.heap[lg]? = some (.cells #[.slice none 0 0] 23 (0, 0))
  kd : w.heap[kb]? = some (.cells #[.pointer (some ⟨pb, 0, none⟩), .map (some mb), .int .i64 m] 52 (0, 0))
  rest : ∃ rB f, Bl lg pb held vsB w rB 0 ∧ MapIs mb sz f w ∧ (∀ i, i < m → i ≠ t → ∃ a l c h, f i = some (.agg #[.slice a l c, .int .i64 h, .int .i64 (cnt i)])) ∧ Left lg (f t) vsQ rB w ∧ ∀ b, rB.ownBlock = some b → lg ≤ b

theorem Left.keep {lg : Nat} {o : Option Value} {vs : Option (List Int)} {rB : Value} {w w' : World} (k : Left lg o vs rB w) (f : Fr (fun _ => False) w w') : Left lg o vs rB w' := by
  cases vs with
  | none => exact k
  | some vs =>
    obtain ⟨r, h, ps, h1, h2, h3, h4⟩ := k
    exact ⟨r, h, ps, h1, h2.keep f (fun _ _ h => h), Tasks.keep f (noBox_none _) _ _ h3, h4⟩
theorem Af.keep {lg pb kb mb m sz t : Nat} {held : Int} {cnt : Nat → Nat} {vsB : List Int} {vsQ : Option (List Int)} {w w' : World} (k : Af lg pb kb mb m sz held cnt t vsB vsQ w) (f : Fr (fun _ => False) w w') : Af lg pb kb mb m sz held cnt t vsB vsQ w' := by
  obtain ⟨h1, h2, rB, g, h3, h4, h5, h6, h7⟩ := k
  exact ⟨(f.block _ (lt_of_block h1) (fun h => h)).trans h1, (f.block _ (lt_of_block h2) (fun h => h)).trans h2, rB, g, h3.keep f, h4.keep f (fun h => h), h5, h6.keep f, h7⟩

theorem af_hand {lg pb kb mb D m np c t : Nat} {held : Int} {cnt : Nat → Nat} {w : World} (h : Ks lg pb kb mb D m np held cnt m w) (hm : m ≤ 1024) (ht : t < m) (hc : cnt t = c + 1) (hnp : np < 4) (h1 : lg ≤ pb) (h2 : lg ≤ mb) (h3 : lg ≤ D) :
    Calls Yba.prog 9 #[.pointer (some ⟨kb, 0, none⟩), .int .i64 t] w fun e w' => e = .returned (.tuple #[]) ∧ Af lg pb kb mb m m (wrap64 (held - 1)) cnt t (vB np ++ [(t : Int) * 100]) (some (vT t c)) w' ∧ ∃ S, Fr S w w' ∧ ∀ k, S k → lg ≤ k := by
  obtain ⟨g0, g1, g2, ⟨rB, ⟨psB, gb1, gb2, gb3⟩, gb4⟩, f, g4, g5, g6⟩ := h
  obtain ⟨r, ps, e1, e2, e3, e4, _⟩ := g6 t ht
  rw [hc, vK_cons] at e1 e3
  cases ps with
  | nil => exact e3.elim
  | cons p xs =>
    obtain ⟨tp, tx⟩ := e3
    have lx := Tasks.length _ _ tx
    have lB := Tasks.length _ _ gb2
    rw [vT_len] at lx
    rw [vB_len] at lB gb3
    refine (fin_hand kb pb mb m t f r rB p xs psB held w (by omega) (by omega) g2 (by rw [lB]; exact gb3) g4 (by rw [e1, lx]; simp [vT_len]) e2 gb1 (by omega) (fun b hb hb' => by have := e4 b hb; have := (gb4 b hb').2; omega)).mono ?_
    rintro e w' ⟨rfl, r', h', rB', M, R, P, RB, sep, F, low⟩
    obtain ⟨low1, low2⟩ := low lg (Nat.le_of_lt (lt_of_block g1)) (fun b hb => by have := e4 b hb; omega) (fun b hb => (gb4 b hb).1)
    have nb : NoBox (fun k => k = pb ∨ k = mb ∨ r.ownBlock = some k ∨ rB.ownBlock = some k) w := (noBox_cells gb3 (by decide) (by decide)).or ((noBox_map g4).or ((noBox_ring e2).or (noBox_ring gb1)))
    have far : ∀ (b : Nat) (A : Array Value) (T : TypeId), w.heap[b]? = some (.cells A T (0, 0)) → T ≠ 45 → T ≠ 1 → w'.heap[b]? = some (.cells A T (0, 0)) := by
      intro b A T hb n1 n2
      rw [F.block b (lt_of_block hb)]
      · exact hb
      · rintro (e | e | e | e)
        · exact ne_ty hb gb3 n1 e
        · exact ne_map hb g4 e
        · exact e2.ne hb n2 e
        · exact gb1.ne hb n2 e
    refine ⟨rfl, ⟨far _ _ _ g1 (by decide) (by decide), far _ _ _ g2 (by decide) (by decide), rB', _, ⟨psB ++ [p], RB, ?_, ?_⟩, M, ?_, ?_, low2⟩, _, F, ?_⟩
    · exact Tasks.keep F nb _ _ (Tasks.snoc tp _ _ gb2)
    · rw [lB] at P
      simpa [vB_len] using P
    · intro i hi hne
      unfold upd
      rw [if_neg hne]
      obtain ⟨ri, pi, q1, q2, q3, q4⟩ := g6 i hi
      obtain ⟨a, l, c', rfl⟩ := q2.shape
      exact ⟨a, l, c', 0, by rw [q1, vK_len]⟩
    · refine ⟨r', h', xs, ?_, R, Tasks.keep F nb _ _ tx, fun b hb => ⟨sep b hb, low1 b hb⟩⟩
      unfold upd
      rw [if_pos rfl, lx, vT_len]
    · rintro k (e | e | e | e)
      · omega
      · omega
      · have := e4 k e; omega
      · exact (gb4 k e).1

theorem af_drop {lg pb kb mb D m np t : Nat} {held : Int} {cnt : Nat → Nat} {w : World} (h : Ks lg pb kb mb D m np held cnt m w) (hm : m ≤ 1024) (ht : t ≤ m) (hc : t < m → cnt t = 0) (h1 : lg ≤ pb) (h2 : lg ≤ mb) :
    Calls Yba.prog 9 #[.pointer (some ⟨kb, 0, none⟩), .int .i64 t] w fun e w' => e = .returned (.tuple #[]) ∧ Af lg pb kb mb m (if t < m then m - 1 else m) held cnt t (vB np) none w' ∧ ∃ S, Fr S w w' ∧ ∀ k, S k → lg ≤ k := by
  obtain ⟨g0, g1, g2, ⟨rB, ⟨psB, gb1, gb2, gb3⟩, gb4⟩, f, g4, g5, g6⟩ := h
  have hft : (f t).getD q0 = q0 ∧ (f t).isSome = decide (t < m) := by
    by_cases e : t < m
    · obtain ⟨r, ps, e1, e2, e3, e4, e5⟩ := g6 t e
      rw [hc e] at e1 e5
      rw [e5 rfl] at e1
      rw [e1]
      exact ⟨rfl, by simp [e]⟩
    · rw [g5 t (by omega)]
      exact ⟨rfl, by simp [e]⟩
  refine (fin_drop kb pb mb m t f rB (vB np).length held w (by omega) hm g2 gb3 g4 hft.1).mono ?_
  rintro e w' ⟨rfl, M, P, F⟩
  rw [hft.2] at M
  have nb : NoBox (fun k => k = pb ∨ k = mb) w := (noBox_cells gb3 (by decide) (by decide)).or (noBox_map g4)
  have far : ∀ (b : Nat) (A : Array Value) (T : TypeId), w.heap[b]? = some (.cells A T (0, 0)) → T ≠ 45 → w'.heap[b]? = some (.cells A T (0, 0)) := by
    intro b A T hb n1
    rw [F.block b (lt_of_block hb)]
    · exact hb
    · rintro (e | e)
      · exact ne_ty hb gb3 n1 e
      · exact ne_map hb g4 e
  refine ⟨rfl, ⟨far _ _ _ g1 (by decide), far _ _ _ g2 (by decide), rB, _, ⟨psB, gb1.keep F ?_, Tasks.keep F nb _ _ gb2, P⟩, by simpa using M, ?_, ?_, fun b hb => (gb4 b hb).1⟩, _, F, ?_⟩
  · rintro b hb (e | e)
    · exact gb1.ne gb3 (by decide) (e ▸ hb)
    · exact gb1.neMap g4 (e ▸ hb)
  · intro i hi hne
    unfold upd
    rw [if_neg hne]
    obtain ⟨ri, pi, q1, q2, q3, q4⟩ := g6 i hi
    obtain ⟨a, l, c', rfl⟩ := q2.shape
    exact ⟨a, l, c', 0, by rw [q1, vK_len]⟩
  · show upd f t none t = none
    simp [upd]
  · rintro k (e | e) <;> omega
end Go.Proofs.Ybulkbjau
