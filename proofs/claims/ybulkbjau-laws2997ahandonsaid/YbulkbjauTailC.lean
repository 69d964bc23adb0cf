import Derived.Test.YbulkbjauTailB
/-! LawS2997AHandOn: the wanted list is laid. -/
namespace Go.Proofs.Ybulkbjau
open Go.RowKit
set_option linter.unusedVariables false

/-- While the wanted list is laid: the log holds xs, the wanted list ys. -/
structure Wn (B D : Nat) (lv wv : Value) (xs ys : List Int) (w0 wr : World) : Prop where
  hBD : B < D
  hD : D ≤ wr.heap.size
  log : wr.heap[B]? = some (.cells #[lv] 23 (0, 0))
  own : wr.ownsRow D 3 1 lv xs.length (xs.map (Value.int .i64))
  want : wr.ownsRow D 3 1 wv ys.length (ys.map (Value.int .i64))
  sep : ∀ b, wv.ownBlock = some b → lv.ownBlock ≠ some b
  bel : Below B w0 wr

theorem Wn.start {B D : Nat} {lv : Value} {xs : List Int} {w0 w : World} (hBD : B < D) (hD : D ≤ w.heap.size) (hl : w.heap[B]? = some (.cells #[lv] 23 (0, 0))) (ho : w.ownsRow D 3 1 lv xs.length (xs.map (Value.int .i64))) (hb : Below B w0 w) :
    Wn B D lv (.slice none 0 0) xs [] w0 w :=
  ⟨hBD, hD, hl, ho, World.ownsRow_nil _ _ _ _, by intro b hb; simp [Value.ownBlock] at hb, hb⟩
theorem Wn.ends {B D : Nat} {lv wv : Value} {xs : List Int} {w0 wr : World} (h : Wn B D lv wv xs xs w0 wr) : Ends B D lv wv xs w0 wr := ⟨h.log, h.own, h.want, h.bel⟩

theorem Wn.step {B D g cap : Nat} {lv wv : Value} {xs ys : List Int} {v : Int} {w0 wr w1 : World} (h : Wn B D lv wv xs ys w0 wr)
    (ho : w1.ownsRow D 3 1 (.slice (some ⟨g, 0, none⟩) (ys.length + 1) cap) (ys.length + 1) (ys.map (Value.int .i64) ++ [.int .i64 v])) (hgr : (wr.alloc (.cells #[.int .i64 v] 3)).grownBy w1 wv.ownBlock)
    (hg : wv.ownBlock = some g ∨ g = (wr.alloc (.cells #[.int .i64 v] 3)).heap.size) :
    Wn B D lv (.slice (some ⟨g, 0, none⟩) (ys.length + 1) cap) xs (ys ++ [v]) w0 w1 ∧ Fr (fun k => wv.ownBlock = some k) wr w1 ∧ (wv.ownBlock = some g ∨ wr.heap.size ≤ g) := by
  obtain ⟨h1, h2, h3, h4, h5, h6, h7⟩ := h
  have s1 : (wr.alloc (.cells #[.int .i64 v] 3)).heap.size = wr.heap.size + 1 := by simp
  have hge := own_ge h5
  have F : Fr (fun k => wv.ownBlock = some k) wr w1 := by
    refine ⟨hgr.os, hgr.tape, hgr.output, ?_, fun k hk hn => ?_⟩
    · have := hgr.size; omega
    · rw [hgr.block k (by omega) (fun e => hn e.symm)]
      exact Below.heap_alloc wr _ k hk
  refine ⟨⟨h1, Nat.le_trans h2 F.size, ?_, own_keep h4 F ?_, by simpa using ho, ?_, ?_⟩, F, ?_⟩
  · exact (F.block B (lt_of_block h3) (fun e => by have := hge B e; omega)).trans h3
  · exact fun b hb e => h6 b e hb
  · intro b hb e
    simp [Value.ownBlock] at hb
    subst hb
    rcases hg with q | q
    · exact h6 _ q e
    · have := (h4.lt _ e).2
      omega
  · exact below_fr h7 (by omega) F (fun k hk => by have := hge k hk; omega)
  · rcases hg with q | q
    · exact .inl q
    · exact .inr (by omega)

/-- The two ways, behind the backlog's draining. -/
def Way2 (np t tc : Nat) (hd : Bool) (xs : List Int) (vsQ : Option (List Int)) : Prop :=
  (∃ c, tc = c + 1 ∧ hd = true ∧ xs = vB np ++ [(t : Int) * 100] ∧ vsQ = some (vT t c)) ∨ (tc = 0 ∧ hd = false ∧ xs = vB np ∧ vsQ = none)

/-- What key t still holds. -/
def Kept (B D N t : Nat) (vs : Option (List Int)) (w : World) : Prop :=
  match vs with
  | none => True
  | some vs => ∃ sz f r h ps, MapIs N sz f w ∧ f t = some (.agg #[r, .int .i64 ((h : Nat) : Int), .int .i64 vs.length]) ∧ RingOk r h ps w ∧ Tasks B ps vs w ∧ (∀ p ∈ ps, p.1 < D ∧ p.2 < D) ∧ ∀ b, r.ownBlock = some b → B ≤ b
theorem Kept.keep {B D N t : Nat} {vs : Option (List Int)} {w w' : World} (h : Kept B D N t vs w) (f : Fr (fun _ => False) w w') : Kept B D N t vs w' := by
  cases vs with
  | none => trivial
  | some vs =>
    obtain ⟨sz, g, r, h, ps, h1, h2, h3, h4, h5⟩ := h
    exact ⟨sz, g, r, h, ps, h1.keep f (fun h => h), h2, h3.keep f (fun _ _ h => h), Tasks.keep f (noBox_none _) _ _ h4, h5⟩
theorem vT_succ (t c : Nat) : vT t (c + 1) = vT t c ++ [(t : Int) * 100 + ((c : Int) + 1)] := by simp [vT, List.range_succ]
theorem eq_func_nil (f : Fn) (a b : Array Value) (w : World) : (binOp .eql 1 (.func f a b) .nilFunc).run Yba.prog w = .ok (.bool false) w := by
  have h : ∀ d : Nat, (Op.equalIn (d + 1) 1 (.func f a b) .nilFunc).run Yba.prog w = .ok false w := fun d => by simp [Op.equalIn, run_underlying Yba.underlying1]
  simp only [binOp]
  simp [Op.equal, Op.maxDepth, h 9999]
theorem w64_small (c : Nat) (h : c < 20) : wrap64 (c : Int) = c := by unfold wrap64; omega

/-- Laying the first part of the wanted list; the blocks that stood stand. -/
structure W6 (B D : Nat) (lv wv : Value) (xs ys : List Int) (w0 w wr : World) : Prop where
  wn : Wn B D lv wv xs ys w0 wr
  fr : Fr (fun _ => False) w wr
  new : ∀ b, wv.ownBlock = some b → w.heap.size ≤ b
theorem W6.step {B D g cap : Nat} {lv wv : Value} {xs ys : List Int} {v : Int} {w0 w wr w1 : World} (h : W6 B D lv wv xs ys w0 w wr)
    (ho : w1.ownsRow D 3 1 (.slice (some ⟨g, 0, none⟩) (ys.length + 1) cap) (ys.length + 1) (ys.map (Value.int .i64) ++ [.int .i64 v])) (hgr : (wr.alloc (.cells #[.int .i64 v] 3)).grownBy w1 wv.ownBlock)
    (hg : wv.ownBlock = some g ∨ g = (wr.alloc (.cells #[.int .i64 v] 3)).heap.size) :
    W6 B D lv (.slice (some ⟨g, 0, none⟩) (ys.length + 1) cap) xs (ys ++ [v]) w0 w w1 := by
  obtain ⟨h1, h2, h3⟩ := h
  obtain ⟨a1, a2, a3⟩ := h1.step ho hgr hg
  refine ⟨a1, h2.join a2 (fun k hk e => by have := h3 k e; omega), ?_⟩
  intro b hb
  simp [Value.ownBlock] at hb
  subst hb
  rcases a3 with e | e
  · exact h3 _ e
  · exact Nat.le_trans h2.size e

/-- Where the key's queue has been taken out: it can be drained, and the wanted list outlives that. -/
theorem hand_start {B D N t : Nat} {m : Int} {lv nv : Value} {xs vs : List Int} {w0 w w1 : World} (h : W6 B D lv nv xs xs w0 w w1) (ht : t ≤ 1024)
    (hkd : w.heap[N + 1]? = some (.cells #[.pointer (some ⟨B + 1, 0, none⟩), .map (some N), .int .i64 m] 52 (0, 0))) (hk : Kept B D N t (some vs) w) :
    ∃ sa sl sc, ∃ h' : Nat, (Instr.lookup 50 (.map (some N)) (.int .i64 t) false).run Yba.prog w1 = .ok (.agg #[.slice sa sl sc, .int .i64 h', .int .i64 vs.length]) w1 ∧ w1.cell? ⟨N + 1, 1, none⟩ = some (.map (some N)) ∧
      Dr B D w1.heap.size 0 39 #[.slice sa sl sc, .int .i64 h', .int .i64 vs.length] (.slice sa sl sc) lv (w1.alloc (.cells #[.slice sa sl sc, .int .i64 h', .int .i64 vs.length] 39)) xs vs (w1.alloc (.cells #[.slice sa sl sc, .int .i64 h', .int .i64 vs.length] 39)) ∧
      ∀ done wq, Dr B D w1.heap.size 0 39 #[.slice sa sl sc, .int .i64 h', .int .i64 vs.length] (.slice sa sl sc) lv (w1.alloc (.cells #[.slice sa sl sc, .int .i64 h', .int .i64 vs.length] 39)) done [] wq → ∃ lv', Wn B D lv' nv done xs w0 wq := by
  obtain ⟨⟨h1, h2, h3, h4, h5, h6, h7⟩, hf, hn⟩ := h
  obtain ⟨sz, f, r, h', ps, k1, k2, k3, k4, k5, k6⟩ := hk.keep hf
  have hkd1 := (hf.block _ (lt_of_block hkd) (fun h => h)).trans hkd
  obtain ⟨sa, sl, sc, rfl⟩ := k3.shape
  have LK := k1.look t (by omega)
  rw [k2] at LK
  simp only [Option.getD] at LK
  refine ⟨sa, sl, sc, h', LK, cell_of hkd1 1, ?_, ?_⟩
  · obtain ⟨V, hV⟩ : ∃ V, w1.alloc (.cells #[.slice sa sl sc, .int .i64 h', .int .i64 vs.length] 39) = V := ⟨_, rfl⟩
    have FV : Fr (fun _ => False) w1 V := hV ▸ (Fr.refl _ w1).alloc _
    have hq : V.heap[w1.heap.size]? = some (.cells #[.slice sa sl sc, .int .i64 h', .int .i64 vs.length] 39 (0, 0)) := by rw [← hV]; exact Go.heap_alloc_new _ _
    rw [hV]
    exact ⟨Fr.refl _ _, ⟨lv, (FV.block _ (lt_of_block h3) (fun h => h)).trans h3, own_keep h4 FV (fun _ _ h => h), .inl rfl⟩, _, h', ps, hq, k3.keep FV (fun _ _ h => h), Tasks.keep FV (noBox_none _) _ _ k4, k5, .inl rfl⟩
  · intro done wq hd
    obtain ⟨V, hV⟩ : ∃ V, w1.alloc (.cells #[.slice sa sl sc, .int .i64 h', .int .i64 vs.length] 39) = V := ⟨_, rfl⟩
    have FV : Fr (fun _ => False) w1 V := hV ▸ (Fr.refl _ w1).alloc _
    have hq : V.heap[w1.heap.size]? = some (.cells #[.slice sa sl sc, .int .i64 h', .int .i64 vs.length] 39 (0, 0)) := by rw [← hV]; exact Go.heap_alloc_new _ _
    rw [hV] at hd
    have h5V := own_keep h5 FV (fun _ _ h => h)
    have k3V := k3.keep FV (fun _ _ h => h)
    obtain ⟨fr, ⟨lv', l1, l2, l3⟩, _⟩ := hd
    have hge := own_ge h5
    have hsV := FV.size
    have hbV : Below B w0 V := below_fr h7 (by omega) FV (fun _ h => h.elim)
    refine ⟨lv', h1, by have := fr.size; omega, l1, l2, own_keep h5V fr ?_, ?_, ?_⟩
    · intro b hb
      obtain ⟨cur, hc⟩ := own_ty h5V hb
      rintro (e | e | e | e)
      · exact ne_ty hc hq (by decide) e
      · have := hge b hb; omega
      · exact k3V.ne hc (by decide) e
      · exact h6 b hb e
    · intro b hb e
      rcases l3 with q | ⟨c, q, hc⟩
      · exact h6 b hb (q ▸ e)
      · rw [e] at q
        cases q
        have := (h5V.lt b hb).2
        omega
    · refine below_fr hbV (by omega) fr ?_
      rintro k (e | e | e | e)
      · omega
      · omega
      · exact k6 k e
      · have := own_ge h4 k e; omega
end Go.Proofs.Ybulkbjau
