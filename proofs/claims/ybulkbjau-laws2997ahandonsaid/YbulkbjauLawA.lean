import Derived.Test.YbulkbjauFinB
/-! LawS2997AHandOn: its states. -/
namespace Go.Proofs.Ybulkbjau
open Go.RowKit
set_option linter.unusedVariables false

def TaskAt (lg : Nat) (p : Nat × Nat) (v : Int) (w : World) : Prop :=
  w.heap[p.1]? = some (.cells #[.pointer (some ⟨lg, 0, none⟩)] 48 (0, 0)) ∧ w.heap[p.2]? = some (.cells #[.int .i64 v] 3 (0, 0))
def Tasks (lg : Nat) : List (Nat × Nat) → List Int → World → Prop
  | [], [], _ => True
  | p :: ps, v :: vs, w => TaskAt lg p v w ∧ Tasks lg ps vs w
  | _, _, _ => False
/-- S holds no box of a task. -/
def NoBox (S : Nat → Prop) (w : World) : Prop := ∀ k, S k → ∀ A t, w.heap[k]? = some (.cells A t (0, 0)) → t ≠ 48 ∧ t ≠ 3

theorem TaskAt.keep {lg : Nat} {p : Nat × Nat} {v : Int} {w w' : World} {S : Nat → Prop} (h : TaskAt lg p v w) (f : Fr S w w') (n : NoBox S w) : TaskAt lg p v w' :=
  ⟨(f.block _ (lt_of_block h.1) (fun s => (n _ s _ _ h.1).1 rfl)).trans h.1, (f.block _ (lt_of_block h.2) (fun s => (n _ s _ _ h.2).2 rfl)).trans h.2⟩
theorem Tasks.keep {lg : Nat} {w w' : World} {S : Nat → Prop} (f : Fr S w w') (n : NoBox S w) : ∀ (ps : List (Nat × Nat)) (vs : List Int), Tasks lg ps vs w → Tasks lg ps vs w'
  | [], [], _ => trivial
  | p :: ps, v :: vs, h => ⟨h.1.keep f n, Tasks.keep f n ps vs h.2⟩
  | [], _ :: _, h => h.elim
  | _ :: _, [], h => h.elim
theorem Tasks.snoc {lg : Nat} {w : World} {p : Nat × Nat} {v : Int} (ht : TaskAt lg p v w) : ∀ (ps : List (Nat × Nat)) (vs : List Int), Tasks lg ps vs w → Tasks lg (ps ++ [p]) (vs ++ [v]) w
  | [], [], _ => ⟨ht, trivial⟩
  | p :: ps, v :: vs, h => ⟨h.1, Tasks.snoc ht ps vs h.2⟩
  | [], _ :: _, h => h.elim
  | _ :: _, [], h => h.elim
theorem Tasks.length {lg : Nat} {w : World} : ∀ (ps : List (Nat × Nat)) (vs : List Int), Tasks lg ps vs w → ps.length = vs.length
  | [], [], _ => rfl
  | p :: ps, v :: vs, h => by simp [Tasks.length ps vs h.2]
  | [], _ :: _, h => h.elim
  | _ :: _, [], h => h.elim
theorem Tasks.lt {lg : Nat} {w : World} : ∀ (ps : List (Nat × Nat)) (vs : List Int), Tasks lg ps vs w → ∀ p ∈ ps, p.1 < w.heap.size ∧ p.2 < w.heap.size
  | [], [], _ => by simp
  | p :: ps, v :: vs, h => by
    intro x hx
    rcases List.mem_cons.mp hx with rfl | hx
    · exact ⟨lt_of_block h.1.1, lt_of_block h.1.2⟩
    · exact Tasks.lt ps vs h.2 x hx
  | [], _ :: _, h => h.elim
  | _ :: _, [], h => h.elim
theorem noBox_none (w : World) : NoBox (fun _ => False) w := fun _ h => h.elim
theorem noBox_ring {r : Value} {h : Nat} {xs : List (Nat × Nat)} {w : World} (k : RingOk r h xs w) : NoBox (fun k => r.ownBlock = some k) w := by
  intro b hb A t hA
  rcases k with ⟨rfl, _⟩ | ⟨rb, L, R, rfl, hL, hB, h1, h2, h3⟩
  · simp [Value.ownBlock] at hb
  · simp [Value.ownBlock] at hb
    subst hb
    rw [hB] at hA
    simp at hA
    obtain ⟨_, rfl, _⟩ := hA
    decide
theorem noBox_cells {b : Nat} {A : Array Value} {t : TypeId} {w : World} (h : w.heap[b]? = some (.cells A t (0, 0))) (h1 : t ≠ 48) (h2 : t ≠ 3) : NoBox (fun k => k = b) w := by
  rintro k rfl A' t' hA
  rw [h] at hA
  simp at hA
  obtain ⟨_, rfl, _⟩ := hA
  exact ⟨h1, h2⟩
theorem noBox_map {b m : Nat} {f : Nat → Option Value} {w : World} (h : MapIs b m f w) : NoBox (fun k => k = b) w := by
  rintro k rfl A' t' hA
  exact absurd rfl (ne_map hA h)
theorem NoBox.or {S T : Nat → Prop} {w : World} (h : NoBox S w) (k : NoBox T w) : NoBox (fun x => S x ∨ T x) w := fun x hx => hx.elim (h x) (k x)

/-- The world behind zzs2997atask. -/
structure Made (lg : Nat) (p : Nat × Nat) (v : Int) (w W : World) : Prop where
  fr : Fr (fun _ => False) w W
  tsk : TaskAt lg p v W
theorem made_new (lg : Nat) (v : Int) (w : World) : Made lg (w.heap.size, w.heap.size + 1) v w ((w.alloc (.cells #[.pointer (some ⟨lg, 0, none⟩)] 48)).alloc (.cells #[.int .i64 v] 3)) := by
  obtain ⟨W1, hW1⟩ : ∃ W, w.alloc (.cells #[.pointer (some ⟨lg, 0, none⟩)] 48) = W := ⟨_, rfl⟩
  rw [hW1]
  have s1 : W1.heap.size = w.heap.size + 1 := by rw [← hW1]; simp
  have f1 : Fr (fun _ => False) w W1 := hW1 ▸ (Fr.refl _ w).alloc _
  refine ⟨f1.alloc _, ?_, ?_⟩
  · show (W1.alloc _).heap[w.heap.size]? = _
    rw [Below.heap_alloc W1 _ _ (by omega), ← hW1]
    exact Go.heap_alloc_new _ _
  · show (W1.alloc _).heap[w.heap.size + 1]? = _
    rw [← s1]
    exact Go.heap_alloc_new _ _
theorem Made.drew {lg : Nat} {p : Nat × Nat} {v : Int} {w W : World} (h : Made lg p v w W) : Made lg p v w W.drew := ⟨h.fr.drew, h.tsk⟩

/-- A task that was made is pushed. -/
theorem push_task (A : Array Value) (T qb qo lg : Nat) (r : Value) (ps : List (Nat × Nat)) (vs : List Int) (v : Int) (p : Nat × Nat) (hq : qo + 2 < A.size) (hT : T ≠ 48 ∧ T ≠ 3 ∧ T ≠ 1) (hp : ps.length < 32) (wr W : World)
    (hA : wr.heap[qb]? = some (.cells (qput A qo r 0 ps.length) T (0, 0))) (hr : RingOk r 0 ps wr) (ht : Tasks lg ps vs wr) (hm : Made lg p v wr W) :
    Calls Yba.prog 7 #[.pointer (some ⟨qb, qo, none⟩), tk p] W fun e w' => e = .returned (.tuple #[]) ∧
      ∃ ps' r', ps'.length = ps.length + 1 ∧ Fr (fun k => k = qb ∨ r.ownBlock = some k) wr w' ∧ RingOk r' 0 ps' w' ∧ Tasks lg ps' (vs ++ [v]) w' ∧ w'.heap[qb]? = some (.cells (qput A qo r' 0 (ps.length + 1)) T (0, 0)) ∧
        (r'.ownBlock = r.ownBlock ∨ ∃ b, r'.ownBlock = some b ∧ wr.heap.size ≤ b) := by
  obtain ⟨f2, tsk⟩ := hm
  have hA' := (f2.block qb (lt_of_block hA) (fun h => h)).trans hA
  have hr' := hr.keep f2 (fun _ _ h => h)
  have ht' : Tasks lg ps vs W := Tasks.keep f2 (noBox_none _) ps vs ht
  refine (push_any A T qb qo r ps p hq hp W hA' hr' (hr'.ne hA' hT.2.2)).mono ?_
  rintro e w' ⟨rfl, r', F, hR, hA2, ho⟩
  have nb : NoBox (fun k => k = qb ∨ r.ownBlock = some k) W := (noBox_cells hA' hT.1 hT.2.1).or (noBox_ring hr')
  refine ⟨rfl, _, r', by simp, (f2.mono (fun _ _ h => h.elim)).trans F, hR, Tasks.keep F nb _ _ (Tasks.snoc tsk ps vs ht'), hA2, ?_⟩
  rcases ho with h | ⟨b, h1, h2⟩
  · exact .inl h
  · exact .inr ⟨b, h1, Nat.le_trans f2.size h2⟩

def vB (j : Nat) : List Int := (List.range j).map (fun (i : Nat) => -1 - (i : Int))
def vK (k c : Nat) : List Int := (List.range c).map (fun (j : Nat) => (k : Int) * 100 + (j : Int))
theorem vB_succ (j : Nat) : vB (j + 1) = vB j ++ [-1 - (j : Int)] := by simp [vB, List.range_succ]
theorem vK_succ (k c : Nat) : vK k (c + 1) = vK k c ++ [(k : Int) * 100 + (c : Int)] := by simp [vK, List.range_succ]

/-- The backlog holds the tasks vs. -/
def Bl (lg pb : Nat) (held : Int) (vs : List Int) (w : World) (r : Value) (h : Nat) : Prop :=
  ∃ ps, RingOk r h ps w ∧ Tasks lg ps vs w ∧ w.heap[pb]? = some (.cells (PA 0 r h vs.length held) 45 (0, 0))
/-- The entry under a key holds the tasks vs. -/
def En (lg D : Nat) (o : Option Value) (vs : List Int) (w : World) : Prop :=
  ∃ r ps, o = some (.agg #[r, .int .i64 0, .int .i64 vs.length]) ∧ RingOk r 0 ps w ∧ Tasks lg ps vs w ∧ (∀ b, r.ownBlock = some b → D ≤ b) ∧ (vs = [] → r = .slice none 0 0)

/-- While the keys are laid: i of them stand. -/
structure Ks (lg pb kb mb D m np : Nat) (held : Int) (cnt : Nat → Nat) (i : Nat) (w : World) : Prop where
  hD : D ≤ w.heap.size
  log : w.heap[lg]? = some (.cells #[.slice none 0 0] 23 (0, 0))
  kd : w.heap[kb]? = some (.cells #[.pointer (some ⟨pb, 0, none⟩), .map (some mb), .int .i64 m] 52 (0, 0))
  bl : ∃ r, Bl lg pb held (vB np) w r 0 ∧ ∀ b, r.ownBlock = some b → lg ≤ b ∧ b < D
  mp : ∃ f, MapIs mb i f w ∧ (∀ k, i ≤ k → f k = none) ∧ ∀ k, k < i → En lg D (f k) (vK k (cnt k)) w

theorem Bl.keep {lg pb h : Nat} {held : Int} {vs : List Int} {w w' : World} {r : Value} (k : Bl lg pb held vs w r h) (f : Fr (fun _ => False) w w') : Bl lg pb held vs w' r h := by
  obtain ⟨ps, h1, h2, h3⟩ := k
  exact ⟨ps, h1.keep f (fun _ _ h => h), Tasks.keep f (noBox_none _) _ _ h2, (f.block _ (lt_of_block h3) (fun h => h)).trans h3⟩
theorem En.keep {lg D : Nat} {o : Option Value} {vs : List Int} {w w' : World} (k : En lg D o vs w) (f : Fr (fun _ => False) w w') : En lg D o vs w' := by
  obtain ⟨r, ps, h1, h2, h3, h4⟩ := k
  exact ⟨r, ps, h1, h2.keep f (fun _ _ h => h), Tasks.keep f (noBox_none _) _ _ h3, h4⟩
theorem Ks.keep {lg pb kb mb D m np i : Nat} {held : Int} {cnt : Nat → Nat} {w w' : World} (k : Ks lg pb kb mb D m np held cnt i w) (f : Fr (fun _ => False) w w') : Ks lg pb kb mb D m np held cnt i w' := by
  obtain ⟨h0, h1, h2, ⟨r, h3, h3'⟩, g, h4, h5, h6⟩ := k
  exact ⟨Nat.le_trans h0 f.size, (f.block _ (lt_of_block h1) (fun h => h)).trans h1, (f.block _ (lt_of_block h2) (fun h => h)).trans h2, ⟨r, h3.keep f, h3'⟩, g, h4.keep f (fun h => h), h5, fun k hk => (h6 k hk).keep f⟩
end Go.Proofs.Ybulkbjau
