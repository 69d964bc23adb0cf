import Derived.Test.YbulkbjauLawA
/-! LawS2997AHandOn: the steps of its first three loops. -/
namespace Go.Proofs.Ybulkbjau
open Go.RowKit Go.MuLone
set_option linter.unusedVariables false

theorem idx22 {a0 : Option Addr} {ad : Addr} {len cap k : Nat} (ha : a0 = some ad) (h : k < len) (w : World) :
    (Instr.indexAt 22 (.slice a0 len cap) (.int .i64 k)).run Yba.prog w = .ok (.pointer (some (ad.add k))) w := by
  subst ha
  have h1 : (0 : Int) ≤ (k : Int) ∧ (k : Int) < (len : Int) := by omega
  simp [Instr.indexAt, asIntOf, run_underlying Yba.underlying22, h1]
  intro h
  omega

/-- While the backlog is laid. -/
structure L1 (B j : Nat) (w wr : World) : Prop where
  below : Below B w wr
  log : wr.heap[B]? = some (.cells #[.slice none 0 0] 23 (0, 0))
  bl : ∃ r, Bl B (B + 1) 0 (vB j) wr r 0 ∧ ∀ b, r.ownBlock = some b → B ≤ b

theorem below_fr {B : Nat} {w wr w' : World} {S : Nat → Prop} (h : Below B w wr) (hB : B ≤ wr.heap.size) (f : Fr S wr w') (hs : ∀ k, S k → B ≤ k) : Below B w w' :=
  ⟨f.os.trans h.os, f.tape.trans h.tape, f.output.trans h.output, Nat.le_trans h.size f.size, fun k hk => (f.block k (by omega) (fun s => by have := hs k s; omega)).trans (h.block k hk)⟩

theorem vB_len (j : Nat) : (vB j).length = j := by simp [vB]
theorem vK_len (k c : Nat) : (vK k c).length = c := by simp [vK]

theorem l1_step {B j : Nat} {w wr : World} (h : L1 B j w wr) (hj : j < 4) (p : Nat × Nat) (W : World) (hm : Made B p (-1 - (j : Int)) wr W) :
    Calls Yba.prog 7 #[.pointer (some ⟨B + 1, 10, none⟩), tk p] W fun e w' => e = .returned (.tuple #[]) ∧ L1 B (j + 1) w w' := by
  obtain ⟨h1, h2, r, ⟨ps, h3, h4, h5⟩, h6⟩ := h
  have hl := Tasks.length _ _ h4
  rw [vB_len] at hl h5
  refine (push_task (PA 0 r 0 j 0) 45 (B + 1) 10 B r ps (vB j) (-1 - (j : Int)) p (by simp [PA]) (by decide) (by omega) wr W (by rw [hl, PA_qput]; exact h5) h3 h4 hm).mono ?_
  rintro e w' ⟨rfl, ps', r', hp', F, hR, hT, hA, ho⟩
  rw [PA_qput, hl] at hA
  refine ⟨rfl, ?_, ?_, r', ⟨ps', hR, by rw [vB_succ]; exact hT, by rw [vB_len]; exact hA⟩, ?_⟩
  · exact below_fr h1 (Nat.le_of_lt (lt_of_block h2)) F (by rintro k (e | e); omega; exact h6 k e)
  · rw [F.block B (lt_of_block h2) (by rintro (e | e); omega; exact h3.ne h2 (by decide) e)]
    exact h2
  · intro b hb
    have := lt_of_block h2
    rcases ho with e | ⟨c, e, hc⟩
    · exact h6 b (e ▸ hb)
    · rw [hb] at e; cases e; omega

theorem ks_start {B np : Nat} {w wr : World} (h : L1 B np w wr) (m : Nat) (held : Int) (cnt : Nat → Nat) :
    Ks B (B + 1) (wr.heap.size + 1) wr.heap.size wr.heap.size m np held cnt 0
      (((wr.setCell ⟨B + 1, 13, none⟩ (.int .i64 held)).alloc (.map #[] 0)).alloc (.cells #[.pointer (some ⟨B + 1, 0, none⟩), .map (some wr.heap.size), .int .i64 m] 52)) := by
  obtain ⟨h1, h2, r, ⟨ps, h3, h4, h5⟩, h6⟩ := h
  obtain ⟨V1, hV1⟩ : ∃ V, wr.setCell ⟨B + 1, 13, none⟩ (.int .i64 held) = V := ⟨_, rfl⟩
  rw [hV1]
  have s1 : V1.heap.size = wr.heap.size := by rw [← hV1]; simp
  have F1 : Fr (fun k => k = B + 1) wr V1 := hV1 ▸ (Fr.refl (fun k => k = B + 1) wr).setCell (p := ⟨B + 1, 13, none⟩) (.inl rfl) _
  have p1 : V1.heap[B + 1]? = some (.cells (PA 0 r 0 (vB np).length held) 45 (0, 0)) := by rw [← hV1]; exact heap_setCell_same wr (B + 1) 13 _ _ _ h5
  have r1 : RingOk r 0 ps V1 := h3.keep F1 (fun b hb e => h3.ne h5 (by decide) (e ▸ hb))
  have t1 : Tasks B ps (vB np) V1 := Tasks.keep F1 (noBox_cells h5 (by decide) (by decide)) _ _ h4
  have g1 : V1.heap[B]? = some (.cells #[.slice none 0 0] 23 (0, 0)) := (F1.block B (lt_of_block h2) (by omega)).trans h2
  have b1 : Bl B (B + 1) held (vB np) V1 r 0 := ⟨ps, r1, t1, p1⟩
  have F3 : Fr (fun _ => False) V1 ((V1.alloc (.map #[] 0)).alloc (.cells #[.pointer (some ⟨B + 1, 0, none⟩), .map (some wr.heap.size), .int .i64 m] 52)) := ((Fr.refl _ V1).alloc _).alloc _
  refine ⟨by simp [s1]; omega, (F3.block _ (lt_of_block g1) (fun h => h)).trans g1, ?_, ⟨r, b1.keep F3, fun b hb => ⟨h6 b hb, h3.lt b hb⟩⟩, fun _ => none, ?_, fun _ _ => rfl, fun k hk => by omega⟩
  · have s2 : (V1.alloc (.map #[] 0)).heap.size = wr.heap.size + 1 := by simp [s1]
    rw [← s2]
    exact Go.heap_alloc_new _ _
  · have q := mapIs_made V1
    rw [s1] at q
    exact q.keep ((Fr.refl (fun _ => False) (V1.alloc (.map #[] 0))).alloc _) (fun h => h)

/-- While a key's queue is laid, in the variable q. -/
structure Qs (lg q : Nat) (vs : List Int) (w0 wr : World) : Prop where
  fr : Fr (fun _ => False) w0 wr
  hq : w0.heap.size ≤ q
  st : ∃ r ps, RingOk r 0 ps wr ∧ Tasks lg ps vs wr ∧ wr.heap[q]? = some (.cells #[r, .int .i64 0, .int .i64 vs.length] 39 (0, 0)) ∧ (∀ b, r.ownBlock = some b → w0.heap.size ≤ b) ∧ (vs = [] → r = .slice none 0 0)
theorem qs_start (lg : Nat) (w0 : World) : Qs lg w0.heap.size [] w0 (w0.alloc (.cells #[.slice none 0 0, .int .i64 0, .int .i64 0] 39)) :=
  ⟨(Fr.refl _ w0).alloc _, Nat.le_refl _, .slice none 0 0, [], .inl ⟨rfl, rfl, rfl⟩, trivial, Go.heap_alloc_new _ _, by intro b hb; simp [Value.ownBlock] at hb, fun _ => rfl⟩
theorem qs_step {lg q : Nat} {vs : List Int} {w0 wr : World} (h : Qs lg q vs w0 wr) (hl : vs.length < 20) (v : Int) (p : Nat × Nat) (W : World) (hm : Made lg p v wr W) :
    Calls Yba.prog 7 #[.pointer (some ⟨q, 0, none⟩), tk p] W fun e w' => e = .returned (.tuple #[]) ∧ Qs lg q (vs ++ [v]) w0 w' := by
  obtain ⟨h1, h2, r, ps, h3, h4, h5, h6, _⟩ := h
  have hps := Tasks.length _ _ h4
  refine (push_task #[r, .int .i64 0, .int .i64 vs.length] 39 q 0 lg r ps vs v p (by simp) (by decide) (by omega) wr W (by rw [hps]; exact h5) h3 h4 hm).mono ?_
  rintro e w' ⟨rfl, ps', r', hp', F, hR, hT, hA, ho⟩
  rw [q_qput, hps] at hA
  refine ⟨rfl, ?_, h2, r', ps', hR, hT, by simpa using hA, ?_, by simp⟩
  · exact ⟨F.os.trans h1.os, F.tape.trans h1.tape, F.output.trans h1.output, Nat.le_trans h1.size F.size, fun k hk _ => (F.block k (Nat.lt_of_lt_of_le hk h1.size) (by rintro (e | e); omega; have := h6 k e; omega)).trans (h1.block k hk (fun h => h))⟩
  · intro b hb
    rcases ho with e | ⟨c, e, hc⟩
    · exact h6 b (e ▸ hb)
    · rw [hb] at e; cases e; have := h1.size; omega
theorem ks_next {lg pb kb mb D m np i q : Nat} {held : Int} {cnt : Nat → Nat} {w0 wr : World} (h : Ks lg pb kb mb D m np held cnt i w0) (hq : Qs lg q (vK i (cnt i)) w0 wr) (hi : i < 1024) :
    ∃ r w', wr.heap[q]? = some (.cells #[r, .int .i64 0, .int .i64 (cnt i)] 39 (0, 0)) ∧ wr.heap[kb]? = some (.cells #[.pointer (some ⟨pb, 0, none⟩), .map (some mb), .int .i64 m] 52 (0, 0)) ∧
      (Instr.mapUpdate 50 (.map (some mb)) (.int .i64 i) (.agg #[r, .int .i64 0, .int .i64 (cnt i)])).run Yba.prog wr.drew = .ok () w' ∧ Ks lg pb kb mb D m np held cnt (i + 1) w' ∧ Fr (fun k => k = mb) wr w' := by
  obtain ⟨h1, h2, r, ps, h3, h4, h5, h6, h7⟩ := hq
  rw [vK_len] at h5
  obtain ⟨g0, g1, g2, ⟨rB, ⟨psB, gb1, gb2, gb3⟩, gb4⟩, f, g4, g5, g6⟩ := h.keep h1
  have g4' : MapIs mb i f wr.drew := g4
  obtain ⟨w', hrun, M', hT⟩ := g4'.store (by omega) i (by omega) (.agg #[r, .int .i64 0, .int .i64 (cnt i)])
  rw [g5 i (Nat.le_refl _)] at M'
  simp only [Option.isSome] at M'
  have F0 := fr_turned hT
  have F : Fr (fun k => k = mb) wr w' := ⟨F0.os, F0.tape, F0.output, F0.size, F0.block⟩
  have nb := noBox_map g4
  refine ⟨r, w', h5, g2, hrun, ⟨Nat.le_trans g0 F.size, (F.block _ (lt_of_block g1) (ne_map g1 g4)).trans g1, (F.block _ (lt_of_block g2) (ne_map g2 g4)).trans g2,
    ⟨rB, ⟨psB, gb1.keep F (fun b hb e => gb1.neMap g4 (e ▸ hb)), Tasks.keep F nb _ _ gb2, (F.block _ (lt_of_block gb3) (ne_map gb3 g4)).trans gb3⟩, gb4⟩, _, M', ?_, ?_⟩, F⟩
  · intro k hk
    unfold upd
    rw [if_neg (by omega)]
    exact g5 k (by omega)
  · intro k hk
    unfold upd
    by_cases e : k = i
    · subst e
      rw [if_pos rfl]
      refine ⟨r, ps, by rw [vK_len], h3.keep F (fun b hb e => h3.neMap g4 (e ▸ hb)), Tasks.keep F nb _ _ h4, fun b hb => ?_, h7⟩
      have := h6 b hb
      have := h.hD
      omega
    · rw [if_neg e]
      obtain ⟨r', ps', e1, e2, e3, e4⟩ := g6 k (by omega)
      exact ⟨r', ps', e1, e2.keep F (fun b hb e => e2.neMap g4 (e ▸ hb)), Tasks.keep F nb _ _ e3, e4⟩

end Go.Proofs.Ybulkbjau
