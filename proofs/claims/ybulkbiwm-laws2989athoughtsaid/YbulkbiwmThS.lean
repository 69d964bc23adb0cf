import Derived.Test.YbulkbiwmThB
/-! LawS2989AThought: the state that 'thought' works on, block by block. -/
namespace Go.Proofs.Ybulkbiwm.Th
open Go.RowKit
set_option linter.unusedVariables false

/-- Where things lie, and what does not turn: the client, the run, the cycle, the guard, the places, the cache (where there is one) and its map of stale keys. -/
structure Cf where
  cl : Nat
  r : Nat
  c : Nat
  g : Nat
  b : Nat
  ib : Nat
  ca : Nat
  st : Nat
  ck : Nat
  n : Nat
  ni : Nat
  use : Bool
  rd : Int
  ver : Int
  start : Int
  by' : Int
  cc : Array Value

def Cf.cp (q : Cf) : Value := if q.use then .pointer (some ⟨q.ca, 0, none⟩) else .pointer none
def Cf.CL (q : Cf) (fr : Nat) (nw : Int) : Array Value := #[.int .i64 0, .int .i64 0, .slice none 0 0, q.cp, .pointer (some ⟨q.r, 0, none⟩), .pointer (some ⟨q.c, 0, none⟩), .int .i64 fr, .int .i64 nw, .nilFunc, .bool false, .bool false, .bool false]
def Cf.R (q : Cf) (wt : Int) : Array Value := #[.int .u32 0, .bool false, .slice none 0 0, .int .i64 0, .int .u32 0, .int .i64 0, .int .i64 0, .iface 39 (.pointer (some ⟨q.g, 0, none⟩)), .slice none 0 0, .map none, .int .i64 wt, .int .i64 q.rd]
def Cf.G (q : Cf) (cs : Int) : Array Value := #[.int .i64 cs, .int .u32 q.ver]
def Cf.C (q : Cf) : Array Value := #[.int .u32 0, .slice (some ⟨q.ib, 0, none⟩) q.ni q.ni, .pointer none, .pointer none, .pointer none, .int .i64 q.by', .int .u64 0, .map none, .map none, .int .i64 q.start, .slice (some ⟨q.b, 0, none⟩) q.n q.n]

structure Cf.Ok (q : Cf) : Prop where
  o1 : q.b < q.c
  o2 : q.c < q.g
  o3 : q.g < q.r
  o4 : q.r < q.cl
  o5 : q.use = true → q.cl < q.st ∧ q.st < q.ca
  n : q.n ≤ 1024
  ni : q.ni ≤ q.n
  sb : -2147483648 ≤ q.start ∧ q.start ≤ 2147483647
  bb : 0 ≤ q.by' ∧ q.by' ≤ 1000000

structure St (q : Cf) (w : World) (fr : Nat) (nw wt cs : Int) : Prop where
  hcl : w.heap[q.cl]? = some (.cells (q.CL fr nw) 58 (0, 0))
  hr : w.heap[q.r]? = some (.cells (q.R wt) 51 (0, 0))
  hg : w.heap[q.g]? = some (.cells (q.G cs) 41 (0, 0))
  hc : w.heap[q.c]? = some (.cells q.C 38 (0, 0))
  hca : q.use = true → w.heap[q.ca]? = some (.cells q.cc 66 (0, 0)) ∧ q.cc[6]? = some (.map (some q.st)) ∧ w.heap[q.st]? = some (.map #[] q.ck)

/-- All blocks but three are as they were. -/
structure Kp (q : Cf) (w w' : World) : Prop where
  os : w'.os = w.os
  tape : w'.tape = w.tape
  output : w'.output = w.output
  size : w.heap.size ≤ w'.heap.size
  block : ∀ k, k < w.heap.size → k ≠ q.cl → k ≠ q.r → k ≠ q.g → w'.heap[k]? = w.heap[k]?

theorem Kp.refl (q : Cf) (w : World) : Kp q w w := ⟨rfl, rfl, rfl, Nat.le_refl _, fun _ _ _ _ _ => rfl⟩
theorem Kp.trans {q : Cf} {a b c : World} (h : Kp q a b) (k : Kp q b c) : Kp q a c :=
  ⟨k.os.trans h.os, k.tape.trans h.tape, k.output.trans h.output, Nat.le_trans h.size k.size, fun i hi h1 h2 h3 => (k.block i (Nat.lt_of_lt_of_le hi h.size) h1 h2 h3).trans (h.block i hi h1 h2 h3)⟩
theorem Kp.drewN {q : Cf} {a b : World} (h : Kp q a b) (n : Nat) : Kp q a (b.drewN n) := ⟨h.os, h.tape, h.output, h.size, h.block⟩
theorem Kp.drew {q : Cf} {a b : World} (h : Kp q a b) : Kp q a b.drew := ⟨h.os, h.tape, h.output, h.size, h.block⟩
theorem Kp.alloc {q : Cf} {a b : World} (h : Kp q a b) (o : Obj) : Kp q a (b.alloc o) :=
  ⟨h.os, h.tape, h.output, by simp; have := h.size; omega, fun i hi h1 h2 h3 => (Below.heap_alloc b o i (Nat.lt_of_lt_of_le hi h.size)).trans (h.block i hi h1 h2 h3)⟩
theorem Kp.setCell {q : Cf} {a b : World} (h : Kp q a b) {p : Addr} (hp : p.block = q.cl ∨ p.block = q.r ∨ p.block = q.g ∨ a.heap.size ≤ p.block) (u : Value) : Kp q a (b.setCell p u) :=
  ⟨h.os, h.tape, h.output, by simp; exact h.size, fun i hi h1 h2 h3 => (Below.heap_setCell b p u i (by rcases hp with e | e | e | e <;> omega)).trans (h.block i hi h1 h2 h3)⟩
theorem Kp.below {q : Cf} {a b : World} (h : Kp q a b) {B : Nat} (h1 : B ≤ q.cl) (h2 : B ≤ q.r) (h3 : B ≤ q.g) (hs : B ≤ a.heap.size) : Below B a b :=
  ⟨h.os, h.tape, h.output, h.size, fun k hk => h.block k (by omega) (by omega) (by omega) (by omega)⟩

theorem lt_of_block {w : World} {b : Nat} {o : Obj} (h : w.heap[b]? = some o) : b < w.heap.size := by
  rcases Nat.lt_or_ge b w.heap.size with g | g
  · exact g
  · simp [Array.getElem?_eq_none g] at h
theorem cell_of {w : World} {b : Nat} {A : Array Value} {t : TypeId} {m : Nat × Nat} (h : w.heap[b]? = some (.cells A t m)) (i : Nat) : w.cell? ⟨b, i, none⟩ = A[i]? := by
  unfold World.cell?
  rw [h]
  simp
theorem free_of {w : World} {b : Nat} {A : Array Value} {t : TypeId} (h : w.heap[b]? = some (.cells A t (0, 0))) (i : Nat) : w.frozen? ⟨b, i, none⟩ = false := by
  unfold World.frozen?
  rw [h]
  simp

/-- The state's cells, as the walk reads them. -/
theorem St.cells {q : Cf} {w : World} {fr : Nat} {nw wt cs : Int} (s : St q w fr nw wt cs) :
    w.cell? ⟨q.cl, 3, none⟩ = some q.cp ∧ w.cell? ⟨q.cl, 4, none⟩ = some (.pointer (some ⟨q.r, 0, none⟩)) ∧ w.cell? ⟨q.cl, 5, none⟩ = some (.pointer (some ⟨q.c, 0, none⟩)) ∧
    w.cell? ⟨q.cl, 6, none⟩ = some (.int .i64 fr) ∧ w.cell? ⟨q.cl, 7, none⟩ = some (.int .i64 nw) ∧
    w.cell? ⟨q.r, 7, none⟩ = some (.iface 39 (.pointer (some ⟨q.g, 0, none⟩))) ∧ w.cell? ⟨q.r, 10, none⟩ = some (.int .i64 wt) ∧ w.cell? ⟨q.r, 11, none⟩ = some (.int .i64 q.rd) ∧
    w.cell? ⟨q.g, 0, none⟩ = some (.int .i64 cs) ∧ w.cell? ⟨q.g, 1, none⟩ = some (.int .u32 q.ver) ∧
    w.cell? ⟨q.c, 1, none⟩ = some (.slice (some ⟨q.ib, 0, none⟩) q.ni q.ni) ∧ w.cell? ⟨q.c, 5, none⟩ = some (.int .i64 q.by') ∧ w.cell? ⟨q.c, 9, none⟩ = some (.int .i64 q.start) ∧ w.cell? ⟨q.c, 10, none⟩ = some (.slice (some ⟨q.b, 0, none⟩) q.n q.n) :=
  ⟨cell_of s.hcl 3, cell_of s.hcl 4, cell_of s.hcl 5, cell_of s.hcl 6, cell_of s.hcl 7, cell_of s.hr 7, cell_of s.hr 10, cell_of s.hr 11, cell_of s.hg 0, cell_of s.hg 1, cell_of s.hc 1, cell_of s.hc 5, cell_of s.hc 9, cell_of s.hc 10⟩

theorem St.free {q : Cf} {w : World} {fr : Nat} {nw wt cs : Int} (s : St q w fr nw wt cs) :
    w.frozen? ⟨q.cl, 6, none⟩ = false ∧ w.frozen? ⟨q.cl, 7, none⟩ = false ∧ w.frozen? ⟨q.r, 10, none⟩ = false ∧ w.frozen? ⟨q.g, 0, none⟩ = false :=
  ⟨free_of s.hcl 6, free_of s.hcl 7, free_of s.hr 10, free_of s.hg 0⟩

theorem St.drewN {q : Cf} {w : World} {fr : Nat} {nw wt cs : Int} (s : St q w fr nw wt cs) (n : Nat) : St q (w.drewN n) fr nw wt cs := ⟨s.hcl, s.hr, s.hg, s.hc, s.hca⟩
theorem St.drew {q : Cf} {w : World} {fr : Nat} {nw wt cs : Int} (s : St q w fr nw wt cs) : St q w.drew fr nw wt cs := ⟨s.hcl, s.hr, s.hg, s.hc, s.hca⟩
theorem St.alloc {q : Cf} {w : World} {fr : Nat} {nw wt cs : Int} (s : St q w fr nw wt cs) (o : Obj) : St q (w.alloc o) fr nw wt cs := by
  have k : ∀ {b : Nat} {x : Obj}, w.heap[b]? = some x → (w.alloc o).heap[b]? = some x := fun h => (Below.heap_alloc w o _ (lt_of_block h)).trans h
  exact ⟨k s.hcl, k s.hr, k s.hg, k s.hc, fun u => ⟨k (s.hca u).1, (s.hca u).2.1, k (s.hca u).2.2⟩⟩
/-- A store into another block. -/
theorem St.other {q : Cf} {w : World} {fr : Nat} {nw wt cs : Int} (s : St q w fr nw wt cs) {p : Addr} (h1 : p.block ≠ q.cl) (h2 : p.block ≠ q.r) (h3 : p.block ≠ q.g) (h4 : p.block ≠ q.c) (h5 : q.use = true → p.block ≠ q.ca ∧ p.block ≠ q.st) (v : Value) : St q (w.setCell p v) fr nw wt cs :=
  ⟨(heap_setCell_other w p _ v h1.symm).trans s.hcl, (heap_setCell_other w p _ v h2.symm).trans s.hr, (heap_setCell_other w p _ v h3.symm).trans s.hg, (heap_setCell_other w p _ v h4.symm).trans s.hc,
    fun u => ⟨(heap_setCell_other w p _ v (h5 u).1.symm).trans (s.hca u).1, (s.hca u).2.1, (heap_setCell_other w p _ v (h5 u).2.symm).trans (s.hca u).2.2⟩⟩
theorem St.setFrom {q : Cf} (ok : q.Ok) {w : World} {fr : Nat} {nw wt cs : Int} (s : St q w fr nw wt cs) (to' : Nat) : St q (w.setCell ⟨q.cl, 6, none⟩ (.int .i64 to')) to' nw wt cs := by
  have o := ok
  refine ⟨heap_setCell_same w q.cl 6 _ 58 _ s.hcl, (heap_setCell_other w _ _ _ (by have := ok.o4; simp; omega)).trans s.hr, (heap_setCell_other w _ _ _ (by have := ok.o4; have := ok.o3; simp; omega)).trans s.hg, (heap_setCell_other w _ _ _ (by have := ok.o4; have := ok.o3; have := ok.o2; simp; omega)).trans s.hc, fun u => ?_⟩
  have := ok.o5 u
  exact ⟨(heap_setCell_other w _ _ _ (by simp; omega)).trans (s.hca u).1, (s.hca u).2.1, (heap_setCell_other w _ _ _ (by simp; omega)).trans (s.hca u).2.2⟩
theorem St.setNow {q : Cf} (ok : q.Ok) {w : World} {fr : Nat} {nw wt cs : Int} (s : St q w fr nw wt cs) (x : Int) : St q (w.setCell ⟨q.cl, 7, none⟩ (.int .i64 x)) fr x wt cs := by
  refine ⟨heap_setCell_same w q.cl 7 _ 58 _ s.hcl, (heap_setCell_other w _ _ _ (by have := ok.o4; simp; omega)).trans s.hr, (heap_setCell_other w _ _ _ (by have := ok.o4; have := ok.o3; simp; omega)).trans s.hg, (heap_setCell_other w _ _ _ (by have := ok.o4; have := ok.o3; have := ok.o2; simp; omega)).trans s.hc, fun u => ?_⟩
  have := ok.o5 u
  exact ⟨(heap_setCell_other w _ _ _ (by simp; omega)).trans (s.hca u).1, (s.hca u).2.1, (heap_setCell_other w _ _ _ (by simp; omega)).trans (s.hca u).2.2⟩
theorem St.setWait {q : Cf} (ok : q.Ok) {w : World} {fr : Nat} {nw wt cs : Int} (s : St q w fr nw wt cs) (x : Int) : St q (w.setCell ⟨q.r, 10, none⟩ (.int .i64 x)) fr nw x cs := by
  refine ⟨(heap_setCell_other w _ _ _ (by have := ok.o4; simp; omega)).trans s.hcl, heap_setCell_same w q.r 10 _ 51 _ s.hr, (heap_setCell_other w _ _ _ (by have := ok.o3; simp; omega)).trans s.hg, (heap_setCell_other w _ _ _ (by have := ok.o3; have := ok.o2; simp; omega)).trans s.hc, fun u => ?_⟩
  have := ok.o5 u
  have := ok.o4
  exact ⟨(heap_setCell_other w _ _ _ (by simp; omega)).trans (s.hca u).1, (s.hca u).2.1, (heap_setCell_other w _ _ _ (by simp; omega)).trans (s.hca u).2.2⟩
theorem St.setCalls {q : Cf} (ok : q.Ok) {w : World} {fr : Nat} {nw wt cs : Int} (s : St q w fr nw wt cs) (x : Int) : St q (w.setCell ⟨q.g, 0, none⟩ (.int .i64 x)) fr nw wt x := by
  refine ⟨(heap_setCell_other w _ _ _ (by have := ok.o4; have := ok.o3; simp; omega)).trans s.hcl, (heap_setCell_other w _ _ _ (by have := ok.o3; simp; omega)).trans s.hr, heap_setCell_same w q.g 0 _ 41 _ s.hg, (heap_setCell_other w _ _ _ (by have := ok.o2; simp; omega)).trans s.hc, fun u => ?_⟩
  have := ok.o5 u
  have := ok.o4
  have := ok.o3
  exact ⟨(heap_setCell_other w _ _ _ (by simp; omega)).trans (s.hca u).1, (s.hca u).2.1, (heap_setCell_other w _ _ _ (by simp; omega)).trans (s.hca u).2.2⟩

end Go.Proofs.Ybulkbiwm.Th
