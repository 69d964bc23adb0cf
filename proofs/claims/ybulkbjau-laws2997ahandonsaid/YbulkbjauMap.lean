import Derived.Test.YbulkbjauQF
import Derived.Test.YbulkbjauTask
import Derived.Test.YbulkbjauTry
import Derived.Maps.OwnSet
import Derived.Maps.Views
import Derived.WalkArith
/-! map[int]queue[func()], with the keys 0, 1, ..: what it holds as a function. -/
namespace Go.Proofs.Ybulkbjau
open Go.RowKit
set_option linter.unusedVariables false

def rdr (v : Value) : Option (DataW Value × List MemPlace) := some (.held v, [])
/-- An empty queue. -/
def q0 : Value := .agg #[.slice none 0 0, .int .i64 0, .int .i64 0]
def kk (k : Nat) : Lit := .int .i64 k

/-- Block b is a map of m entries that holds f k under the key k. -/
def MapIs (b m : Nat) (f : Nat → Option Value) (w : World) : Prop :=
  ∃ D, w.ownsMap Yba.prog 3 rdr b m D ∧ Maps.size D = m ∧ ∀ k, k ≤ 2000 → Maps.has D (kk k) = (f k).isSome ∧ ∀ z, D.atKey (kk k) (.held z) = .held ((f k).getD z)

theorem tight {P : Program} {k : TypeId} {R : Value → Option (DataW Value × List MemPlace)} {w : World} {b n : Nat} {D : DataW Value} (h : w.ownsMap P k R b n D) : w.ownsMap P k R b (Maps.size D) D := by
  obtain ⟨es, clock, hb, F, hs, rfl⟩ := h
  exact ⟨es, clock, hb, F, by simp [Maps.size, length_sorted], rfl⟩

theorem key3 : Maps.Keyed Yba.prog 3 := Maps.int_keyed Yba.underlying3
theorem keyOf3 (k : Nat) (hk : k ≤ 2000) : Go.keyOf Yba.prog 3 (.int .i64 k) = some (kk k) := by
  exact Maps.keyOf_int_mk Yba.underlying3 (WalkArith.wf_i64 (by omega))
theorem zero39 (w : World) : (zeroValue 39).run Yba.prog w = .ok q0 w := by kernel_rfl

theorem MapIs.look {b m : Nat} {f : Nat → Option Value} {w : World} (h : MapIs b m f w) (k : Nat) (hk : k ≤ 2000) : (Instr.lookup 50 (.map (some b)) (.int .i64 k) false).run Yba.prog w = .ok ((f k).getD q0) w := by
  obtain ⟨D, ho, hs, hf⟩ := h
  obtain ⟨v, ps, hrun, hv⟩ := ho.lookup key3 Yba.underlying50 (zero39 w) (zd := .held q0) (zp := []) rfl (keyOf3 k hk)
  rw [(hf k hk).2 q0] at hv
  simp [rdr] at hv
  rw [hrun, hv.1]
theorem MapIs.look_ok {b m : Nat} {f : Nat → Option Value} {w : World} (h : MapIs b m f w) (k : Nat) (hk : k ≤ 2000) : (Instr.lookup 50 (.map (some b)) (.int .i64 k) true).run Yba.prog w = .ok (.tuple #[(f k).getD q0, .bool (f k).isSome]) w := by
  obtain ⟨D, ho, hs, hf⟩ := h
  obtain ⟨v, ps, hrun, hv⟩ := ho.look_ok key3 Yba.underlying50 (zero39 w) (zd := .held q0) (zp := []) rfl (keyOf3 k hk)
  rw [(hf k hk).2 q0] at hv
  simp [rdr] at hv
  rw [hrun, hv.1, (hf k hk).1]
theorem MapIs.len {b m : Nat} {f : Nat → Option Value} {w : World} (h : MapIs b m f w) (ty : TypeId) : (Builtin.len_ #[50] ty #[.map (some b)]).run Yba.prog w = .ok (.int .i64 m) w := by
  obtain ⟨D, ho, hs, hf⟩ := h
  rw [ho.len Yba.underlying50 ty, hs]

def upd (f : Nat → Option Value) (k : Nat) (v : Option Value) : Nat → Option Value := fun j => if j = k then v else f j

theorem kk_ne {j k : Nat} (h : j ≠ k) : kk j ≠ kk k := by
  intro e
  simp [kk] at e
  omega
theorem kk_key (k : Nat) : WideAt.IsKeyLit (kk k) := trivial

theorem MapIs.store {b m : Nat} {f : Nat → Option Value} {w : World} (h : MapIs b m f w) (hm : m ≤ 1500) (k : Nat) (hk : k ≤ 2000) (v : Value) :
    ∃ w', (Instr.mapUpdate 50 (.map (some b)) (.int .i64 k) v).run Yba.prog w = .ok () w' ∧ MapIs b (if (f k).isSome then m else m + 1) (upd f k (some v)) w' ∧ w.mapTurned w' b := by
  obtain ⟨D, ho, hs, hf⟩ := h
  obtain ⟨w', hrun, ho', ht⟩ := ho.store key3 Yba.underlying50 (by unfold maxLen; omega) (keyOf3 k hk) (val := v) (d := .held v) (ps := []) rfl
  have hs' : Maps.size (D.put (kk k) (.held v)) = if (f k).isSome then m else m + 1 := by rw [Maps.size_put (ho.tidy key3), (hf k hk).1, hs]
  refine ⟨w', hrun, ⟨_, hs' ▸ tight ho', hs', fun j hj => ?_⟩, ht⟩
  by_cases e : j = k
  · subst e
    rw [Maps.has_put_same ho.isMap (kk_key j)]
    refine ⟨by simp [upd], fun z => ?_⟩
    rw [Maps.atKey_put_same ho.isMap (kk_key j)]
    simp [upd]
  · rw [Maps.has_put_other (kk_ne e)]
    refine ⟨by simp [upd, e, (hf j hj).1], fun z => ?_⟩
    rw [Maps.atKey_put_other (kk_ne e), (hf j hj).2 z]
    simp [upd, e]
theorem MapIs.drop {b m : Nat} {f : Nat → Option Value} {w : World} (h : MapIs b m f w) (k : Nat) (hk : k ≤ 2000) (ty : TypeId) :
    ∃ w', (Builtin.delete_ #[50, 3] ty #[.map (some b), .int .i64 k]).run Yba.prog w = .ok (.tuple #[]) w' ∧ MapIs b (if (f k).isSome then m - 1 else m) (upd f k none) w' ∧ w.mapTurned w' b := by
  obtain ⟨D, ho, hs, hf⟩ := h
  obtain ⟨w', hrun, ho', ht⟩ := ho.drop key3 Yba.underlying50 (keyOf3 k hk) ty
  have hs' : Maps.size (D.del (kk k)) = if (f k).isSome then m - 1 else m := by
    have q := Maps.size_del (k := kk k) (ho.tidy key3)
    rw [(hf k hk).1, hs] at q
    cases hfk : (f k).isSome <;> simp [hfk] at q ⊢ <;> omega
  refine ⟨w', hrun, ⟨_, hs' ▸ tight ho', hs', fun j hj => ?_⟩, ht⟩
  by_cases e : j = k
  · subst e
    rw [Maps.has_del_same]
    refine ⟨by simp [upd], fun z => ?_⟩
    rw [Maps.atKey_del_same]
    simp [upd]
  · rw [Maps.has_del_other (kk_ne e)]
    refine ⟨by simp [upd, e, (hf j hj).1], fun z => ?_⟩
    rw [Maps.atKey_del_other (kk_ne e), (hf j hj).2 z]
    simp [upd, e]
theorem mapIs_made (w : World) : MapIs w.heap.size 0 (fun _ => none) (w.alloc (.map #[] 0)) :=
  ⟨_, World.ownsMap_made w Yba.prog 3 rdr, rfl, fun k hk => ⟨rfl, fun z => rfl⟩⟩
theorem MapIs.keep {b m : Nat} {f : Nat → Option Value} {w w' : World} {S : Nat → Prop} (h : MapIs b m f w) (fr : Fr S w w') (hb : ¬ S b) : MapIs b m f w' := by
  obtain ⟨D, ⟨es, clock, hh, F, hs0, hD⟩, hs, hf⟩ := h
  exact ⟨D, ⟨es, clock, (fr.block b (Array.getElem?_eq_some_iff.1 hh).1 hb).trans hh, F, hs0, hD⟩, hs, hf⟩
theorem MapIs.lt {b m : Nat} {f : Nat → Option Value} {w : World} (h : MapIs b m f w) : b < w.heap.size := by
  obtain ⟨D, ho, _⟩ := h
  exact ho.lt
theorem fr_turned {b : Nat} {w w' : World} (h : w.mapTurned w' b) : Fr (fun k => k = b) w w' := by
  obtain ⟨es, clock, es', clock', hb, rfl⟩ := h
  exact ⟨rfl, rfl, rfl, by simp [ChangeMaps.setBlock], fun k hk hs => ChangeMaps.heap_setBlock_other hb _ hs⟩
end Go.Proofs.Ybulkbjau
