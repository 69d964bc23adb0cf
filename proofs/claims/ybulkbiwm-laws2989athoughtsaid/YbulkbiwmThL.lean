import Derived.Test.YbulkbiwmThZ
import Derived.Lib.Builder
/-! LawS2989AThought: the law's own memory. -/
namespace Go.Proofs.Ybulkbiwm.Th
open Go.RowKit
set_option linter.unusedVariables false

def Zp (n : Nat) : Array Value := madeCells #[.int .i64 0, .int .i64 0] (n * 2)
def Zi (n : Nat) : Array Value := madeCells #[.string ⟨#[]⟩, .string ⟨#[]⟩] (n * 2)
theorem Zp_size (n : Nat) : (Zp n).size = n * 2 := size_madeCells _ _

theorem Yba.i26 : (Yba.prog.info? 26).map (fun i => (i.zero, i.size, i.bytes)) = some (some (.agg #[.int .i64 0, .int .i64 0]), 2, 16) := by kernel_rfl
theorem Yba.i94 : (Yba.prog.info? 94).map (fun i => (i.zero, i.size, i.bytes)) = some (some (.agg #[.string ⟨#[]⟩, .string ⟨#[]⟩]), 2, 32) := by kernel_rfl

theorem mk_places (n : Nat) (hn : n ≤ 1024) (w : World) : (Instr.makeSlice 24 (.int .i64 n) (.int .i64 n)).run Yba.prog w = .ok (.slice (some ⟨w.heap.size, 0, none⟩) n n) (w.alloc (.cells (Zp n) 26)) := by
  obtain ⟨i, hi, h1, h2, h3⟩ := info_parts Yba.i26
  have := run_make (P := Yba.prog) w 24 26 i _ Yba.underlying24 hi h1 .i64 .i64 n n (by omega) (by omega) (by rw [h3]; omega) (by omega)
  rw [this, h2]
  simp [Zp, Value.cells]
theorem mk_items (n : Nat) (hn : n ≤ 1024) (w : World) : (Instr.makeSlice 27 (.int .i64 n) (.int .i64 n)).run Yba.prog w = .ok (.slice (some ⟨w.heap.size, 0, none⟩) n n) (w.alloc (.cells (Zi n) 94)) := by
  obtain ⟨i, hi, h1, h2, h3⟩ := info_parts Yba.i94
  have := run_make (P := Yba.prog) w 27 94 i _ Yba.underlying27 hi h1 .i64 .i64 n n (by omega) (by omega) (by rw [h3]; omega) (by omega)
  rw [this, h2]
  simp [Zi, Value.cells]

/-- Where place k starts: behind the first k lengths. -/
def pre (start : Int) (z : Nat → Int) : Nat → Int | 0 => start | k + 1 => pre start z k + z k

theorem pre_bd (start : Int) (z : Nat → Int) (hz : ∀ k, 0 ≤ z k ∧ z k ≤ 255) : ∀ k, start ≤ pre start z k ∧ pre start z k ≤ start + 255 * k
  | 0 => by simp [pre]
  | k + 1 => by
    have := pre_bd start z hz k
    have := hz k
    simp only [pre]
    omega
theorem pre_mono (start : Int) (z : Nat → Int) (hz : ∀ k, 0 ≤ z k ∧ z k ≤ 255) : ∀ a b, a ≤ b → pre start z a ≤ pre start z b := by
  intro a b h
  induction h with
  | refl => exact Int.le_refl _
  | step h ih => have := hz (by assumption); simp only [pre]; omega

/-- The row of places as the first k rounds have laid it. -/
def Row (H n : Nat) (at' : Nat → Int) (k : Nat) (w : World) : Prop := ∃ A : Array Value, w.heap[H]? = some (.cells A 26 (0, 0)) ∧ A.size = n * 2 ∧ ∀ j, j < k → A[j * 2]? = some (.int .i64 (at' j))

theorem Row.start (w : World) (n : Nat) (at' : Nat → Int) : Row w.heap.size n at' 0 (w.alloc (.cells (Zp n) 26)) :=
  ⟨Zp n, by show (w.heap.push _)[w.heap.size]? = _; simp, Zp_size n, fun j hj => by omega⟩
theorem Row.cells {H n : Nat} {at' : Nat → Int} {k : Nat} {w : World} (h : Row H n at' k w) (hk : k < n) :
    (∃ v, w.cell? ⟨H, k * 2, none⟩ = some v) ∧ (∃ v, w.cell? ⟨H, k * 2 + 1, none⟩ = some v) ∧ w.frozen? ⟨H, k * 2, none⟩ = false ∧ w.frozen? ⟨H, k * 2 + 1, none⟩ = false := by
  obtain ⟨A, hA, hs, _⟩ := h
  refine ⟨⟨A[k * 2]'(by omega), ?_⟩, ⟨A[k * 2 + 1]'(by omega), ?_⟩, free_of hA _, free_of hA _⟩ <;> rw [cell_of hA] <;> simp <;> omega
theorem Row.next {H n : Nat} {at' : Nat → Int} {k : Nat} {w : World} (h : Row H n at' k w) (hk : k < n) (y : Value) :
    Row H n at' (k + 1) ((w.setCell ⟨H, k * 2, none⟩ (.int .i64 (at' k))).setCell ⟨H, k * 2 + 1, none⟩ y) := by
  obtain ⟨A, hA, hs, hj⟩ := h
  refine ⟨(A.setIfInBounds (k * 2) (.int .i64 (at' k))).setIfInBounds (k * 2 + 1) y, heap_setCell_same _ _ _ _ _ _ (heap_setCell_same w H (k * 2) A 26 _ hA), by simpa using hs, fun j hjk => ?_⟩
  rw [Array.getElem?_setIfInBounds, Array.getElem?_setIfInBounds, if_neg (by omega)]
  by_cases e : k * 2 = j * 2
  · have : k = j := by omega
    subst this
    simp; omega
  · rw [if_neg e]
    exact hj j (by omega)

theorem idx_at {a1 : Option Addr} {ad : Addr} {len cap k : Nat} (ha : a1 = some ad) (hk : k < len) (w : World) : (Instr.indexAt 22 (.slice a1 len cap) (.int .i64 k)).run Yba.prog w = .ok (.pointer (some (ad.add k))) w := by
  subst ha
  have h1 : (0 : Int) ≤ (k : Int) ∧ (k : Int) < (len : Int) := by omega
  simp [Instr.indexAt, asIntOf, run_underlying Yba.underlying22, h1]
  intro h
  omega

/-- The world as the law lays it ahead of the two calls, where the client has no cache. -/
def Wn (wr : World) (N H nn len ff : Nat) (by' start ver wt rd nw : Int) : World :=
  (((((wr.alloc (.cells (Zi nn) 94)).alloc
    (.cells #[.int .u32 0, .slice (some ⟨N, 0, none⟩) nn nn, .pointer none, .pointer none, .pointer none, .int .i64 by', .int .u64 0, .map none, .map none, .int .i64 start, .slice (some ⟨H, 0, none⟩) len len] 38)).alloc
    (.cells #[.int .i64 0, .int .u32 ver] 41)).alloc
    (.cells #[.int .u32 0, .bool false, .slice none 0 0, .int .i64 0, .int .u32 0, .int .i64 0, .int .i64 0, .iface 39 (.pointer (some ⟨N + 1 + 1, 0, none⟩)), .slice none 0 0, .map none, .int .i64 wt, .int .i64 rd] 51)).alloc
    (.cells #[.int .i64 0, .int .i64 0, .slice none 0 0, .pointer none, .pointer (some ⟨N + 1 + 1 + 1, 0, none⟩), .pointer (some ⟨N + 1, 0, none⟩), .int .i64 ff, .int .i64 nw, .nilFunc, .bool false, .bool false, .bool false] 58))
def qn (N H nn len : Nat) (by' start ver rd : Int) : Cf :=
  { cl := N + 1 + 1 + 1 + 1, r := N + 1 + 1 + 1, c := N + 1, g := N + 1 + 1, b := H, ib := N, ca := 0, st := 0, ck := 0, n := len, ni := nn, use := false, rd := rd, ver := ver, start := start, by' := by', cc := #[] }
theorem Wn_heap (wr : World) (N H nn len ff : Nat) (by' start ver wt rd nw : Int) : (Wn wr N H nn len ff by' start ver wt rd nw).heap = ((((wr.heap.push (.cells (Zi nn) 94)).push (.cells (qn N H nn len by' start ver rd).C 38)).push (.cells ((qn N H nn len by' start ver rd).G 0) 41)).push (.cells ((qn N H nn len by' start ver rd).R wt) 51)).push (.cells ((qn N H nn len by' start ver rd).CL ff nw) 58) := rfl
theorem push_at {a : Array Obj} {x : Obj} {k : Nat} (h : k = a.size) : (a.push x)[k]? = some x := by subst h; simp
theorem push_old {a : Array Obj} {x : Obj} {k : Nat} (h : k < a.size) : (a.push x)[k]? = a[k]? := by rw [Array.getElem?_push, if_neg (by omega)]
theorem Wn_st {wr : World} {N : Nat} (hN : wr.heap.size = N) (H nn len ff : Nat) (by' start ver wt rd nw : Int) : St (qn N H nn len by' start ver rd) (Wn wr N H nn len ff by' start ver wt rd nw) ff nw wt 0 := by
  refine ⟨?_, ?_, ?_, ?_, fun h => by cases h⟩
  · rw [Wn_heap]
    exact push_at (by simp [qn, hN])
  · rw [Wn_heap]
    exact (push_old (by simp [qn, hN])).trans (push_at (by simp [qn, hN]))
  · rw [Wn_heap]
    exact (push_old (by simp [qn, hN])).trans ((push_old (by simp [qn, hN])).trans (push_at (by simp [qn, hN])))
  · rw [Wn_heap]
    exact (push_old (by simp [qn, hN]; try omega)).trans ((push_old (by simp [qn, hN]; try omega)).trans ((push_old (by simp [qn, hN]; try omega)).trans (push_at (by simp [qn, hN]))))
theorem Wn_size {wr : World} {N : Nat} (hN : wr.heap.size = N) (H nn len ff : Nat) (by' start ver wt rd nw : Int) : (Wn wr N H nn len ff by' start ver wt rd nw).heap.size = N + 5 := by
  rw [Wn_heap]
  simp [hN]
theorem Wn_below {wr : World} {N : Nat} (hN : wr.heap.size = N) (H nn len ff : Nat) (by' start ver wt rd nw : Int) : Below N wr (Wn wr N H nn len ff by' start ver wt rd nw) := by
  subst hN
  exact (((((Below.refl _ _).alloc (Nat.le_refl _) _).alloc (by simp) _).alloc (by simp; omega) _).alloc (by simp; omega) _).alloc (by simp; omega) _
theorem St.below {q : Cf} {w w' : World} {fr : Nat} {nw wt cs : Int} (s : St q w fr nw wt cs) (h : Below w.heap.size w w') : St q w' fr nw wt cs := by
  have k : ∀ {b : Nat} {x : Obj}, w.heap[b]? = some x → w'.heap[b]? = some x := fun e => (h.block _ (lt_of_block e)).trans e
  exact ⟨k s.hcl, k s.hr, k s.hg, k s.hc, fun u => ⟨k (s.hca u).1, (s.hca u).2.1, k (s.hca u).2.2⟩⟩
theorem Row.pm {H n : Nat} {at' : Nat → Int} {w : World} (h : Row H n at' n w) : Pm H n at' w := by
  intro k hk
  obtain ⟨A, hA, _, hj⟩ := h
  rw [cell_of hA]
  exact hj k hk
theorem Row.lt {H n k : Nat} {at' : Nat → Int} {w : World} (h : Row H n at' k w) : H < w.heap.size := by
  obtain ⟨A, hA, _, _⟩ := h
  exact lt_of_block hA
theorem Pm.below {H n B : Nat} {at' : Nat → Int} {w w' : World} (p : Pm H n at' w) (h : Below B w w') (hB : H < B) : Pm H n at' w' := by
  intro k hk
  rw [h.cell (p := ⟨H, k * 2, none⟩) hB]
  exact p k hk

theorem neq_same {tp te : TypeId} (hp : Yba.prog.underlying tp = some (.pointer te)) (hs : (Yba.prog.info? te).isSome = true) (a : Addr) (w : World) : (binOp .neq tp (.pointer (some a)) (.pointer (some a))).run Yba.prog w = .ok (.bool false) w := by
  obtain ⟨j, hj⟩ := Option.isSome_iff_exists.1 hs
  exact Lib.run_neq_ptr_same (P := Yba.prog) w a hp hj
theorem neq42 (a : Addr) (w : World) : (binOp .neq 42 (.pointer (some a)) (.pointer (some a))).run Yba.prog w = .ok (.bool false) w := neq_same Yba.underlying42 (by kernel_rfl) a w
theorem neq28 (a : Addr) (w : World) : (binOp .neq 28 (.pointer (some a)) (.pointer (some a))).run Yba.prog w = .ok (.bool false) w := neq_same Yba.underlying28 (by kernel_rfl) a w
theorem neq55 (a : Addr) (w : World) : (binOp .neq 55 (.pointer (some a)) (.pointer (some a))).run Yba.prog w = .ok (.bool false) w := neq_same Yba.underlying55 (by kernel_rfl) a w

end Go.Proofs.Ybulkbiwm.Th
