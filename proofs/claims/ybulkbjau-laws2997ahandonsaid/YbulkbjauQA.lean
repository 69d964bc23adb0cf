import Derived.Test.YbulkbjauOnceA
import Derived.Laws.CopyRow
import Derived.Laws.IdiomCopy
import Derived.Laws.OwnMore
import Derived.BigRegion
import Derived.BigQuiet
/-! queue[func()]: resize. -/
namespace Go.Proofs.Ybulkbjau
open Go.RowKit
set_option linter.unusedVariables false
attribute [local go_sem ↓] Go.wp_at_zero Go.wp_at_succ

/-- A queue's three cells, laid at qo into a row. -/
def qput (A : Array Value) (qo : Nat) (r : Value) (h n : Int) : Array Value := ((A.setIfInBounds qo r).setIfInBounds (qo + 1) (.int .i64 h)).setIfInBounds (qo + 2) (.int .i64 n)
theorem qput0 {A : Array Value} {qo : Nat} {r : Value} {h n : Int} (hq : qo + 2 < A.size) : (qput A qo r h n)[qo]? = some r := by
  unfold qput
  rw [Array.getElem?_setIfInBounds_ne (by omega), Array.getElem?_setIfInBounds_ne (by omega), Array.getElem?_setIfInBounds_self_of_lt (by omega)]
theorem qput1 {A : Array Value} {qo : Nat} {r : Value} {h n : Int} (hq : qo + 2 < A.size) : (qput A qo r h n)[qo + 1]? = some (.int .i64 h) := by
  unfold qput
  rw [Array.getElem?_setIfInBounds_ne (by omega), Array.getElem?_setIfInBounds_self_of_lt (by simp; omega)]
theorem qput2 {A : Array Value} {qo : Nat} {r : Value} {h n : Int} (hq : qo + 2 < A.size) : (qput A qo r h n)[qo + 2]? = some (.int .i64 n) := by
  unfold qput
  rw [Array.getElem?_setIfInBounds_self_of_lt (by simp; omega)]

theorem qset0 (A : Array Value) (qo : Nat) (r r' : Value) (h n : Int) : (qput A qo r h n).setIfInBounds qo r' = qput A qo r' h n := by
  unfold qput
  rw [Array.setIfInBounds_comm _ _ (by omega : qo + 2 ≠ qo), Array.setIfInBounds_comm _ _ (by omega : qo + 1 ≠ qo), Array.setIfInBounds_setIfInBounds]
theorem qset1 (A : Array Value) (qo : Nat) (r : Value) (h h' n : Int) : (qput A qo r h n).setIfInBounds (qo + 1) (.int .i64 h') = qput A qo r h' n := by
  unfold qput
  rw [Array.setIfInBounds_comm _ _ (by omega : qo + 2 ≠ qo + 1), Array.setIfInBounds_setIfInBounds]
theorem qset2 (A : Array Value) (qo : Nat) (r : Value) (h n n' : Int) : (qput A qo r h n).setIfInBounds (qo + 2) (.int .i64 n') = qput A qo r h n' := by
  unfold qput
  rw [Array.setIfInBounds_setIfInBounds]

theorem Yba.size1 : (Yba.prog.info? 1).map (·.size) = some 1 := by kernel_rfl

theorem Yba.info1 : (Yba.prog.info? 1).map (fun i => (i.zero, i.size, i.bytes)) = some (some .nilFunc, 1, 8) := by kernel_rfl

theorem mk37 (S : Nat) (hS : S ≤ 1000) : ∃ Z : Array Value, Z.size = S ∧ ∀ w : World, (Instr.makeSlice 37 (.int .i64 S) (.int .i64 S)).run Yba.prog w = .ok (.slice (some ⟨w.heap.size, 0, none⟩) S S) (w.alloc (.cells Z 1)) := by
  obtain ⟨i0, hi, hz0, hz1, hz2⟩ := info_parts Yba.info1
  refine ⟨madeCells (Value.nilFunc).cells (S * 1), by rw [size_madeCells]; omega, fun w => ?_⟩
  have h := run_make (P := Yba.prog) w 37 1 i0 .nilFunc Yba.underlying37 hi hz0 .i64 .i64 S S (by omega) (Int.le_refl _) (by rw [hz2]; omega) (by omega)
  rw [hz1] at h
  simpa using h

/-- Of the blocks that stood, those outside S stand as they were. -/
structure Fr (S : Nat → Prop) (w w' : World) : Prop where
  os : w'.os = w.os
  tape : w'.tape = w.tape
  output : w'.output = w.output
  size : w.heap.size ≤ w'.heap.size
  block : ∀ k, k < w.heap.size → ¬ S k → w'.heap[k]? = w.heap[k]?
theorem Fr.refl (S : Nat → Prop) (w : World) : Fr S w w := ⟨rfl, rfl, rfl, Nat.le_refl _, fun _ _ _ => rfl⟩
theorem Fr.trans {S : Nat → Prop} {a b c : World} (h : Fr S a b) (k : Fr S b c) : Fr S a c :=
  ⟨k.os.trans h.os, k.tape.trans h.tape, k.output.trans h.output, Nat.le_trans h.size k.size, fun i hi hs => (k.block i (Nat.lt_of_lt_of_le hi h.size) hs).trans (h.block i hi hs)⟩
theorem Fr.mono {S S' : Nat → Prop} {a b : World} (h : Fr S a b) (hs : ∀ k, k < a.heap.size → S k → S' k) : Fr S' a b :=
  ⟨h.os, h.tape, h.output, h.size, fun i hi hn => h.block i hi (fun q => hn (hs i hi q))⟩
theorem Fr.drew {S : Nat → Prop} {a b : World} (h : Fr S a b) : Fr S a b.drew := ⟨h.os, h.tape, h.output, h.size, h.block⟩
theorem Fr.alloc {S : Nat → Prop} {a b : World} (h : Fr S a b) (o : Obj) : Fr S a (b.alloc o) :=
  ⟨h.os, h.tape, h.output, by simp; have := h.size; omega, fun i hi hs => (Below.heap_alloc b o i (Nat.lt_of_lt_of_le hi h.size)).trans (h.block i hi hs)⟩
theorem Fr.setCell {S : Nat → Prop} {a b : World} (h : Fr S a b) {p : Addr} (hp : S p.block ∨ a.heap.size ≤ p.block) (u : Value) : Fr S a (b.setCell p u) :=
  ⟨h.os, h.tape, h.output, by simp; exact h.size, fun k hk hs => (Below.heap_setCell b p u k (by rcases hp with e | e; exact fun q => hs (q ▸ e); omega)).trans (h.block k hk hs)⟩

set_option maxRecDepth 100000 in
set_option maxHeartbeats 1000000 in
theorem resize_nil (A : Array Value) (T qb qo : Nat) (hq : qo + 2 < A.size) (w : World) (hA : w.heap[qb]? = some (.cells (qput A qo (.slice none 0 0) 0 0) T (0, 0))) :
    Calls Yba.prog 18 #[.pointer (some ⟨qb, qo, none⟩), .int .i64 16] w fun e w' => e = .returned (.tuple #[]) ∧ Fr (fun k => k = qb) w w' ∧
      ∃ R : Array Value, R.size = 16 ∧ w'.heap[w.heap.size]? = some (.cells R 1 (0, 0)) ∧ w'.heap[qb]? = some (.cells (qput A qo (.slice (some ⟨w.heap.size, 0, none⟩) 16 16) 0 0) T (0, 0)) := by
  have hcp : ∀ (w : World) (d a : Option Addr) (dl dc sl sc : Nat), Nat.min sl dl = 0 → (Builtin.copy_ #[37, 37] 3 #[.slice d dl dc, .slice a sl sc]).run Yba.prog w = .ok (goInt 0) w := fun w d a dl dc sl sc h => run_copy_none w 37 37 3 1 d a dl dc sl sc Yba.underlying37 Yba.size1 h
  have hlt := lt_of_block hA
  obtain ⟨Z, hZ, hmk⟩ := mk37 16 (by omega)
  have hmk' : (Instr.makeSlice 37 (.int .i64 16) (.int .i64 16)).run Yba.prog w = .ok (.slice (some ⟨w.heap.size, 0, none⟩) 16 16) (w.alloc (.cells Z 1)) := hmk w
  obtain ⟨W, hW⟩ : ∃ W, w.alloc (.cells Z 1) = W := ⟨_, rfl⟩
  rw [hW] at hmk'
  have hAW : W.heap[qb]? = some (.cells (qput A qo (.slice none 0 0) 0 0) T (0, 0)) := by rw [← hW]; exact (Below.heap_alloc w _ _ hlt).trans hA
  have c0 : W.cell? ⟨qb, qo, none⟩ = some (.slice none 0 0) := (cell_of hAW qo).trans (qput0 hq)
  have c1 : W.cell? ⟨qb, qo + 1, none⟩ = some (.int .i64 0) := (cell_of hAW (qo + 1)).trans (qput1 hq)
  have c2 : W.cell? ⟨qb, qo + 2, none⟩ = some (.int .i64 0) := (cell_of hAW (qo + 2)).trans (qput2 hq)
  have f0 := free_of hAW qo
  have f1 := free_of hAW (qo + 1)
  have hWb : W.heap[w.heap.size]? = some (.cells Z 1 (0, 0)) := by rw [← hW]; exact Go.heap_alloc_new _ _
  have g1 := heap_setCell_same W qb qo _ T (.slice (some ⟨w.heap.size, 0, none⟩) 16 16) hAW
  rw [qset0] at g1
  have g2 := heap_setCell_same _ qb (qo + 1) _ T (.int .i64 0) g1
  rw [qset1] at g2
  have g3 : ((W.setCell ⟨qb, qo, none⟩ (.slice (some ⟨w.heap.size, 0, none⟩) 16 16)).setCell ⟨qb, qo + 1, none⟩ (.int .i64 0)).heap[w.heap.size]? = some (.cells Z 1 (0, 0)) := by
    rw [Below.heap_setCell _ _ _ _ (by simp; omega), Below.heap_setCell _ _ _ _ (by simp; omega)]; exact hWb
  have fr0 : Fr (fun k => k = qb) w W := hW ▸ (Fr.refl _ w).alloc _
  have FR := hid ((fr0.setCell (p := ⟨qb, qo, none⟩) (.inl rfl) (.slice (some ⟨w.heap.size, 0, none⟩) 16 16)).setCell (p := ⟨qb, qo + 1, none⟩) (.inl rfl) (.int .i64 0))
  have G2 := hid g2
  have G3 := hid g3
  clear hmk hA hAW g1 g2 g3 fr0 hWb
  go_enter Yba.func18, Yba.ntmps18
  go_wp2
  go_region
  go_wp2
  go_region
  go_wp2
  go_end0
  exact ⟨rfl, FR.out.drew.drew, Z, hZ, G3.out, G2.out⟩
end Go.Proofs.Ybulkbjau
