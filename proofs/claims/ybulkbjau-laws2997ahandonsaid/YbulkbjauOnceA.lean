import Derived.Test.YbulkbjauLocks
import Derived.WalkKit
import Derived.WalkSpells
import Derived.WalkLawsBesides
import Derived.Defers
import Derived.RegionTactic
import Derived.RegionCalls
import Derived.Laws.EntriesVeiled
import Derived.Deep.RegionHeld3
import Derived.Deep.DrawnRows
/-! Group.fail: the record's closure, sync.Once. -/
namespace Go.Proofs.Ybulkbjau
open Go.RowKit Go.MuLone
set_option linter.unusedVariables false
attribute [local go_sem ↓] Go.wp_at_zero Go.wp_at_succ

theorem hid {p : Prop} (h : p) : Hid p := h
theorem lt_of_block {w : World} {b : Nat} {o : Obj} (h : w.heap[b]? = some o) : b < w.heap.size := by
  rcases Nat.lt_or_ge b w.heap.size with g | g
  · exact g
  · simp [Array.getElem?_eq_none g] at h
theorem cell_of {w : World} {b : Nat} {A : Array Value} {t : TypeId} {m : Nat × Nat} (h : w.heap[b]? = some (.cells A t m)) (i : Nat) : w.cell? ⟨b, i, none⟩ = A[i]? := by
  unfold World.cell?
  rw [h]
  simp
theorem free_of {w : World} {b : Nat} {A : Array Value} {t : TypeId} (h : w.heap[b]? = some (.cells A t (0, 0))) (i : Nat) : w.frozen? ⟨b, i, none⟩ = false := by
  unfold World.frozen?
  rw [h]
  simp

/-- Below 'base' only the block cv, and perhaps g, has turned. -/
structure Kp (base cv g : Nat) (w w' : World) : Prop where
  os : w'.os = w.os
  tape : w'.tape = w.tape
  output : w'.output = w.output
  size : w.heap.size ≤ w'.heap.size
  block : ∀ k, k < base → k ≠ cv → k ≠ g → w'.heap[k]? = w.heap[k]?
theorem Kp.refl (base cv g : Nat) (w : World) : Kp base cv g w w := ⟨rfl, rfl, rfl, Nat.le_refl _, fun _ _ _ _ => rfl⟩
theorem Kp.trans {base cv g : Nat} {a b c : World} (h : Kp base cv g a b) (k : Kp base cv g b c) : Kp base cv g a c :=
  ⟨k.os.trans h.os, k.tape.trans h.tape, k.output.trans h.output, Nat.le_trans h.size k.size, fun i hi h1 h2 => (k.block i hi h1 h2).trans (h.block i hi h1 h2)⟩
theorem Kp.drew {base cv g : Nat} {a b : World} (h : Kp base cv g a b) : Kp base cv g a b.drew := ⟨h.os, h.tape, h.output, h.size, h.block⟩
theorem Kp.alloc {base cv g : Nat} {a b : World} (h : Kp base cv g a b) (hb : base ≤ b.heap.size) (o : Obj) : Kp base cv g a (b.alloc o) :=
  ⟨h.os, h.tape, h.output, by simp; have := h.size; omega, fun i hi h1 h2 => (Below.heap_alloc b o i (Nat.lt_of_lt_of_le hi hb)).trans (h.block i hi h1 h2)⟩
theorem Kp.setCell {base cv g : Nat} {a b : World} (h : Kp base cv g a b) {p : Addr} (hp : p.block = cv ∨ p.block = g ∨ base ≤ p.block) (u : Value) : Kp base cv g a (b.setCell p u) :=
  ⟨h.os, h.tape, h.output, by simp; exact h.size, fun k hk h1 h2 => (Below.heap_setCell b p u k (by rcases hp with e | e | e <;> omega)).trans (h.block k hk h1 h2)⟩
theorem Kp.grown {base cv g : Nat} {a b c : World} {row : Option Nat} (h : Kp base cv g a b) (hg : b.grownBy c row) (hB : base ≤ b.heap.size) (hr : ∀ k, row = some k → base ≤ k) : Kp base cv g a c := by
  have q : Below base b c := (Below.refl base b).grown hg hB hr
  exact ⟨q.os.trans h.os, q.tape.trans h.tape, q.output.trans h.output, Nat.le_trans h.size q.size, fun i hi h1 h2 => (q.block i hi).trans (h.block i hi h1 h2)⟩
theorem Kp.below {base cv g B : Nat} {a b : World} (h : Kp base cv g a b) (h1 : B ≤ base) (h2 : B ≤ cv) (h3 : B ≤ g) : Below B a b := ⟨h.os, h.tape, h.output, h.size, fun k hk => h.block k (by omega) (by omega) (by omega)⟩

/-- The recorded calls: the variable at cv holds a slice that owns xs. -/
structure Rec (base cv : Nat) (xs : List Value) (w : World) : Prop where
  hb : base ≤ w.heap.size
  v : ∃ v, w.heap[cv]? = some (.cells #[v] 65 (0, 0)) ∧ w.ownsRow base 62 1 v xs.length xs

theorem Yba.info62 : (Yba.prog.info? 62).map (fun i => (i.zero, i.size, i.bytes)) = some (some .nilIface, 1, 16) := by kernel_rfl


/-- An error as it is met here: nil, or one that errors.New made at block b. -/
def ev : Option Nat → Value
  | none => .nilIface
  | some b => .iface 89 (.pointer (some ⟨b, 0, none⟩))
theorem ev_one (e : Option Nat) : (ev e).oneCell' = true := by cases e <;> rfl

/-- What is asked of the cancel function c. -/
def Canc (c : Nat) : Prop := ∀ (base cv g : Nat) (xs : List Value) (e : Option Nat) (w : World), cv < base → xs.length ≤ 10 → Rec base cv xs w →
    Calls Yba.prog c #[ev e, .pointer (some ⟨cv, 0, none⟩)] w fun r w' => r = .returned (.tuple #[]) ∧ Rec base cv (xs ++ [ev e]) w' ∧ Kp base cv g w w'

theorem own_ge {base e size n : Nat} {v : Value} {xs : List Value} {w : World} (h : w.ownsRow base e size v n xs) : ∀ k, v.ownBlock = some k → base ≤ k := by
  rcases h.2 with ⟨rfl, _⟩ | ⟨g, cap, cur, rfl, hg, _⟩
  · intro k hk; simp [Value.ownBlock] at hk
  · intro k hk; simp [Value.ownBlock] at hk; omega

theorem own_slice {base e size n : Nat} {v : Value} {xs : List Value} {w : World} (h : w.ownsRow base e size v (n + 1) xs) : ∃ g cap, v = .slice (some ⟨g, 0, none⟩) (n + 1) cap := by
  rcases h.2 with ⟨_, h0⟩ | ⟨g, cap, cur, hv, _⟩
  · omega
  · exact ⟨g, cap, hv⟩

theorem rec_mid {base cv : Nat} {v : Value} {w w1 : World} {o : Obj} {row : Option Nat} (hb : base ≤ w.heap.size) (hcb : cv < base) (hcv : w.heap[cv]? = some (.cells #[v] 65 (0, 0)))
    (hg : (w.alloc o).grownBy w1 row) (hr : ∀ k, row = some k → base ≤ k) : w1.heap[cv]? = some (.cells #[v] 65 (0, 0)) := by
  have hB : base ≤ (w.alloc o).heap.size := by simp; omega
  have q : Below base (w.alloc o) w1 := (Below.refl base _).grown hg hB hr
  exact (q.block cv hcb).trans ((Below.heap_alloc w _ cv (by omega)).trans hcv)

theorem rec_next {base cv g : Nat} {xs : List Value} {x v v' : Value} {w w1 : World} {o : Obj} {row : Option Nat} (hb : base ≤ w.heap.size) (hcb : cv < base) (hcv : w.heap[cv]? = some (.cells #[v] 65 (0, 0)))
    (hown' : w1.ownsRow base 62 1 v' (xs.length + 1) (xs ++ [x])) (hg : (w.alloc o).grownBy w1 row) (hr : ∀ k, row = some k → base ≤ k) :
    Rec base cv (xs ++ [x]) (w1.setCell ⟨cv, 0, none⟩ v') ∧ Kp base cv g w (w1.setCell ⟨cv, 0, none⟩ v') := by
  have k1 : Kp base cv g w (w.alloc o) := (Kp.refl base cv g w).alloc hb _
  have hB : base ≤ (w.alloc o).heap.size := by simp; omega
  have k2 : Kp base cv g w w1 := k1.grown hg hB hr
  refine ⟨⟨by simp; have := k2.size; omega, v', one_setCell (rec_mid hb hcb hcv hg hr), ?_⟩, k2.setCell (.inl rfl) _⟩
  simpa using ownsRow_setCell_below hown' hcb _

set_option maxRecDepth 100000 in
set_option maxHeartbeats 1000000 in
/-- LawS2997CFirstWins$1 -/
theorem cancel14 : Canc 14 := by
  intro base cv g xs e w hcb hl hr
  obtain ⟨hb, v, hcv, hown⟩ := hr
  obtain ⟨i0, hi, hz0, hz1, hz2⟩ := info_parts Yba.info62
  have c0 : w.cell? ⟨cv, 0, none⟩ = some v := cell_of hcv 0
  have f0 := free_of hcv 0
  have hm : xs.length + 1 ≤ maxLen := by unfold maxLen; omega
  have hone : ∀ u ∈ [ev e], u.oneCell' = true := by intro u hu; simp at hu; subst hu; exact ev_one e
  have ho := own_ge hown
  cases e with
  | none =>
    simp only [ev] at hone ⊢
    go_enter Yba.func14, Yba.ntmps14
    go_wp2_with (at_builtin; refine wpList_append_own _ rfl _ _ 65 rfl base 62 i0 .nilIface 1 16 Yba.underlying65 hi hz0 hz1 hz2 rfl (by decide) _ _ _ rfl (hown.alloc _) ⟨w.heap.size, 0, none⟩ 1 1 [.nilIface] rfl rfl (cell_one_new _ _ _) hone hm (by omega) (by simp; omega) ?_)
    intro v' w1 hown' hgrow _
    have h1 := rec_mid hb hcb hcv hgrow ho
    have c1 : w1.cell? ⟨cv, 0, none⟩ = some v := cell_of h1 0
    have f1 := free_of h1 0
    have fin := rec_next (g := g) hb hcb hcv hown' hgrow ho
    obtain ⟨g', cap', rfl⟩ := own_slice hown'
    clear hown' hgrow h1 hown ho
    go_wp2
    go_end0
    exact ⟨rfl, fin⟩
  | some b =>
    simp only [ev] at hone ⊢
    go_enter Yba.func14, Yba.ntmps14
    go_wp2_with (at_builtin; refine wpList_append_own _ rfl _ _ 65 rfl base 62 i0 .nilIface 1 16 Yba.underlying65 hi hz0 hz1 hz2 rfl (by decide) _ _ _ rfl (hown.alloc _) ⟨w.heap.size, 0, none⟩ 1 1 [.iface 89 (.pointer (some ⟨b, 0, none⟩))] rfl rfl (cell_one_new _ _ _) hone hm (by omega) (by simp; omega) ?_)
    intro v' w1 hown' hgrow _
    have h1 := rec_mid hb hcb hcv hgrow ho
    have c1 : w1.cell? ⟨cv, 0, none⟩ = some v := cell_of h1 0
    have f1 := free_of h1 0
    have fin := rec_next (g := g) hb hcb hcv hown' hgrow ho
    obtain ⟨g', cap', rfl⟩ := own_slice hown'
    clear hown' hgrow h1 hown ho
    go_wp2
    go_end0
    exact ⟨rfl, fin⟩
set_option maxRecDepth 100000 in
set_option maxHeartbeats 1000000 in
/-- LawS2997CWaitAfter$1 -/
theorem cancel16 : Canc 16 := by
  intro base cv g xs e w hcb hl hr
  obtain ⟨hb, v, hcv, hown⟩ := hr
  obtain ⟨i0, hi, hz0, hz1, hz2⟩ := info_parts Yba.info62
  have c0 : w.cell? ⟨cv, 0, none⟩ = some v := cell_of hcv 0
  have f0 := free_of hcv 0
  have hm : xs.length + 1 ≤ maxLen := by unfold maxLen; omega
  have hone : ∀ u ∈ [ev e], u.oneCell' = true := by intro u hu; simp at hu; subst hu; exact ev_one e
  have ho := own_ge hown
  cases e with
  | none =>
    simp only [ev] at hone ⊢
    go_enter Yba.func16, Yba.ntmps16
    go_wp2_with (at_builtin; refine wpList_append_own _ rfl _ _ 65 rfl base 62 i0 .nilIface 1 16 Yba.underlying65 hi hz0 hz1 hz2 rfl (by decide) _ _ _ rfl (hown.alloc _) ⟨w.heap.size, 0, none⟩ 1 1 [.nilIface] rfl rfl (cell_one_new _ _ _) hone hm (by omega) (by simp; omega) ?_)
    intro v' w1 hown' hgrow _
    have h1 := rec_mid hb hcb hcv hgrow ho
    have c1 : w1.cell? ⟨cv, 0, none⟩ = some v := cell_of h1 0
    have f1 := free_of h1 0
    have fin := rec_next (g := g) hb hcb hcv hown' hgrow ho
    obtain ⟨g', cap', rfl⟩ := own_slice hown'
    clear hown' hgrow h1 hown ho
    go_wp2
    go_end0
    exact ⟨rfl, fin⟩
  | some b =>
    simp only [ev] at hone ⊢
    go_enter Yba.func16, Yba.ntmps16
    go_wp2_with (at_builtin; refine wpList_append_own _ rfl _ _ 65 rfl base 62 i0 .nilIface 1 16 Yba.underlying65 hi hz0 hz1 hz2 rfl (by decide) _ _ _ rfl (hown.alloc _) ⟨w.heap.size, 0, none⟩ 1 1 [.iface 89 (.pointer (some ⟨b, 0, none⟩))] rfl rfl (cell_one_new _ _ _) hone hm (by omega) (by simp; omega) ?_)
    intro v' w1 hown' hgrow _
    have h1 := rec_mid hb hcb hcv hgrow ho
    have c1 : w1.cell? ⟨cv, 0, none⟩ = some v := cell_of h1 0
    have f1 := free_of h1 0
    have fin := rec_next (g := g) hb hcb hcv hown' hgrow ho
    obtain ⟨g', cap', rfl⟩ := own_slice hown'
    clear hown' hgrow h1 hown ho
    go_wp2
    go_end0
    exact ⟨rfl, fin⟩
end Go.Proofs.Ybulkbjau
