import Derived.Test.YbulkbjauTailA
/-! LawS2997AHandOn: a queue is drained: each task that it yields is run. -/
namespace Go.Proofs.Ybulkbjau
open Go.RowKit
set_option linter.unusedVariables false

theorem Fr.join {S T : Nat → Prop} {a b c : World} (h : Fr S a b) (k : Fr T b c) (ht : ∀ i, i < a.heap.size → T i → S i) : Fr S a c :=
  ⟨k.os.trans h.os, k.tape.trans h.tape, k.output.trans h.output, Nat.le_trans h.size k.size, fun i hi hs => (k.block i (Nat.lt_of_lt_of_le hi h.size) (fun q => hs (ht i hi q))).trans (h.block i hi hs)⟩
theorem own_keep {D n : Nat} {v : Value} {xs : List Value} {w w' : World} {S : Nat → Prop} (h : w.ownsRow D 3 1 v n xs) (f : Fr S w w') (hs : ∀ b, v.ownBlock = some b → ¬ S b) : w'.ownsRow D 3 1 v n xs := by
  rcases h with ⟨hl, h | ⟨g, cap, cur, rfl, hg, hb, hc, hm, hz, ht⟩⟩
  · exact ⟨hl, .inl h⟩
  · exact ⟨hl, .inr ⟨g, cap, cur, rfl, hg, (f.block g (lt_of_block hb) (hs g rfl)).trans hb, hc, hm, hz, ht⟩⟩
theorem own_ty {D n b : Nat} {v : Value} {xs : List Value} {w : World} (h : w.ownsRow D 3 1 v n xs) (hb : v.ownBlock = some b) : ∃ cur, w.heap[b]? = some (.cells cur 3 (0, 0)) := by
  rcases h with ⟨hl, ⟨rfl, _⟩ | ⟨g, cap, cur, rfl, hg, hb', hc, hm, hz, ht⟩⟩
  · simp [Value.ownBlock] at hb
  · simp [Value.ownBlock] at hb
    subst hb
    exact ⟨cur, hb'⟩
theorem Tasks.keepAt {lg : Nat} {w w' : World} {S : Nat → Prop} (f : Fr S w w') : ∀ (ps : List (Nat × Nat)) (vs : List Int), Tasks lg ps vs w → (∀ p ∈ ps, ¬ S p.1 ∧ ¬ S p.2) → Tasks lg ps vs w'
  | [], [], _, _ => trivial
  | p :: ps, v :: vs, h, n => ⟨⟨(f.block _ (lt_of_block h.1.1) (n p (by simp)).1).trans h.1.1, (f.block _ (lt_of_block h.1.2) (n p (by simp)).2).trans h.1.2⟩, Tasks.keepAt f ps vs h.2 (fun q hq => n q (by simp [hq]))⟩
  | [], _ :: _, h, _ => h.elim
  | _ :: _, [], h, _ => h.elim

/-- While a queue is drained: the tasks done have run, the tasks rest are in it. -/
structure Dr (B D qb qo T : Nat) (A : Array Value) (r0 lv0 : Value) (ws : World) (done rest : List Int) (wr : World) : Prop where
  fr : Fr (fun k => k = qb ∨ k = B ∨ r0.ownBlock = some k ∨ lv0.ownBlock = some k) ws wr
  log : ∃ lv, wr.heap[B]? = some (.cells #[lv] 23 (0, 0)) ∧ wr.ownsRow D 3 1 lv done.length (done.map (Value.int .i64)) ∧ (lv.ownBlock = lv0.ownBlock ∨ ∃ b, lv.ownBlock = some b ∧ ws.heap.size ≤ b)
  q : ∃ r h ps, wr.heap[qb]? = some (.cells (qput A qo r ((h : Nat) : Int) rest.length) T (0, 0)) ∧ RingOk r h ps wr ∧ Tasks B ps rest wr ∧ (∀ p ∈ ps, p.1 < D ∧ p.2 < D) ∧ (r.ownBlock = r0.ownBlock ∨ ∃ b, r.ownBlock = some b ∧ ws.heap.size ≤ b)

theorem drain_step {B D qb qo T : Nat} {A : Array Value} {r0 lv0 : Value} {ws wr : World} {done vs : List Int} {v : Int} (h : Dr B D qb qo T A r0 lv0 ws done (v :: vs) wr) (hq : qo + 2 < A.size) (hT : T ≠ 48 ∧ T ≠ 3 ∧ T ≠ 1 ∧ T ≠ 23) (hBD : B < D) (hD : D ≤ ws.heap.size) (hl : done.length ≤ 1000) :
    ∃ p, Calls Yba.prog 12 #[.pointer (some ⟨qb, qo, none⟩)] wr fun e w1 => e = .returned (.tuple #[tk p, .bool true]) ∧
      Calls Yba.prog 19 #[.pointer (some ⟨p.1, 0, none⟩), .pointer (some ⟨p.2, 0, none⟩)] w1 fun e w2 => e = .returned (.tuple #[]) ∧ Dr B D qb qo T A r0 lv0 ws (done ++ [v]) vs w2 := by
  obtain ⟨fr, ⟨lv, hlog, hown, hlv⟩, r, h', ps, hQ, hr, ht, hps, hr0⟩ := h
  cases ps with
  | nil => exact ht.elim
  | cons p ps =>
    obtain ⟨tp, tx⟩ := ht
    have lx := Tasks.length _ _ tx
    refine ⟨p, (pop_any A T qb qo r h' ps p hq wr (by rw [lx]; simpa using hQ) hr (hr.ne hQ hT.2.2.1)).mono ?_⟩
    rintro e w1 ⟨rfl, r1, h1, F1, R1, Q1, o1⟩
    refine ⟨rfl, ?_⟩
    have nb : NoBox (fun k => k = qb ∨ r.ownBlock = some k) wr := (noBox_cells hQ hT.1 hT.2.1).or (noBox_ring hr)
    have l1 : w1.heap[B]? = some (.cells #[lv] 23 (0, 0)) := (F1.block B (lt_of_block hlog) (by
      rintro (e | e)
      · exact ne_ty hlog hQ (fun e => hT.2.2.2 e.symm) e
      · exact hr.ne hlog (by decide) e)).trans hlog
    have own1 : w1.ownsRow D 3 1 lv done.length (done.map (Value.int .i64)) := own_keep hown F1 (by
      intro b hb
      obtain ⟨cur, hc⟩ := own_ty hown hb
      rintro (e | e)
      · exact ne_ty hc hQ (fun e => hT.2.1 e.symm) e
      · exact hr.ne hc (by decide) e)
    have tp1 := tp.keep F1 nb
    have tx1 := Tasks.keep F1 nb _ _ tx
    have hp := hps p (by simp)
    have s1 := fr.size
    have s2 := F1.size
    have hxl : (done.map (Value.int .i64)).length = done.length := by simp
    refine (task_run D B p.1 p.2 v lv (done.map (Value.int .i64)) w1 (by omega) hBD hp.1 hp.2 (by simpa using hl) tp1.1 tp1.2 l1 (by rw [hxl]; exact own1)).mono ?_
    rintro e w2 ⟨rfl, lv2, L2, O2, F2, o2⟩
    refine ⟨rfl, ?_, ⟨lv2, L2, ?_, ?_⟩, r1, h1, ps, ?_, ?_, ?_, fun p' hp' => hps p' (by simp [hp']), ?_⟩
    · refine (fr.join F1 ?_).join F2 ?_
      · rintro k hk (e | e)
        · exact .inl e
        · rcases hr0 with e0 | ⟨b, e0, hb⟩
          · exact .inr (.inr (.inl (e0 ▸ e)))
          · rw [e] at e0; cases e0; omega
      · rintro k hk (e | e)
        · exact .inr (.inl e)
        · rcases hlv with e0 | ⟨b, e0, hb⟩
          · exact .inr (.inr (.inr (e0 ▸ e)))
          · rw [e] at e0; cases e0; omega
    · simpa using O2
    · rcases o2 with e | ⟨b, e, hb⟩
      · rw [e]; exact hlv
      · exact .inr ⟨b, e, by omega⟩
    · rw [F2.block qb (lt_of_block Q1)]
      · rw [← lx]; exact Q1
      · rintro (e | e)
        · exact ne_ty Q1 l1 hT.2.2.2 e
        · obtain ⟨cur, hc⟩ := own_ty own1 e
          exact ne_ty hc Q1 (fun e => hT.2.1 e.symm) rfl
    · refine R1.keep F2 ?_
      rintro b hb (e | e)
      · subst e; exact R1.ne l1 (by decide) hb
      · obtain ⟨cur, hc⟩ := own_ty own1 e
        exact R1.ne hc (by decide) hb
    · refine Tasks.keepAt F2 _ _ tx1 ?_
      intro p' hp'
      obtain ⟨g1, g2⟩ := hps p' (by simp [hp'])
      have no : ∀ b, b < D → lv.ownBlock ≠ some b := fun b hb e => by have := own_ge own1 b e; omega
      have hB : ∀ b (A' : Array Value) (t : TypeId), w1.heap[b]? = some (.cells A' t (0, 0)) → t ≠ 23 → b ≠ B := fun b A' t hb ht => ne_ty hb l1 ht
      obtain ⟨i, hi, hip⟩ := List.getElem_of_mem hp'
      have key : ∀ (ps : List (Nat × Nat)) (vs : List Int), Tasks B ps vs w1 → ∀ p ∈ ps, p.1 ≠ B ∧ p.2 ≠ B := by
        intro ps
        induction ps with
        | nil => intro vs _ p hp; cases hp
        | cons a ps ih =>
          intro vs ht p hp
          cases vs with
          | nil => exact ht.elim
          | cons v vs =>
            rcases List.mem_cons.mp hp with rfl | hp
            · exact ⟨hB _ _ _ ht.1.1 (by decide), hB _ _ _ ht.1.2 (by decide)⟩
            · exact ih vs ht.2 p hp
      obtain ⟨k1, k2⟩ := key ps vs tx1 p' hp'
      exact ⟨fun e => e.elim k1 (no _ g1), fun e => e.elim k2 (no _ g2)⟩
    · rcases o1 with e | ⟨b, e, hb⟩
      · rw [e]; exact hr0
      · exact .inr ⟨b, e, by omega⟩
end Go.Proofs.Ybulkbjau
