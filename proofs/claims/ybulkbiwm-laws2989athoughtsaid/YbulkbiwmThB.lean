import Derived.Test.YbulkbiwmThA
import Derived.Laws.IdiomRangeMap
/-! LawS2989AThought: reading, passed, pass. -/
namespace Go.Proofs.Ybulkbiwm.Th
open Go.RowKit
set_option linter.unusedVariables false
attribute [local go_sem ↓] Go.wp_at_zero Go.wp_at_succ

/-- The guard's method by which the state's number is asked: its name stands in the interface's own row. -/
def verName (t : Option TypeDesc) : Option String := match t with | some (.interface ms) => (ms[5]?).map (fun m => m.1) | _ => none
theorem method_ver0 (a : Addr) (w : World) : (method 259 39 (.pointer (some a)) ((verName (Yba.prog.underlying 47)).getD "")).run Yba.prog w = .ok (48, .pointer (some a)) w := by kernel_rfl
theorem method_ver (s : String) (o : Option String) (ho : verName (Yba.prog.underlying 47) = o) (hs : o = some s) (a : Addr) (w : World) : (method 259 39 (.pointer (some a)) s).run Yba.prog w = .ok (48, .pointer (some a)) w := by
  have h := method_ver0 a w
  rw [ho, hs] at h
  exact h

set_option maxRecDepth 100000 in
set_option maxHeartbeats 1000000 in
/-- (*client).reading -/
theorem reading_any (cl r c g : Nat) (cs ver : Int) (w : World) (b1 : 0 ≤ cs) (b2 : cs ≤ 100) (n1 : ¬ cl = g) (n2 : ¬ r = g)
    (hr : w.cell? ⟨cl, 4, none⟩ = some (.pointer (some ⟨r, 0, none⟩))) (hc : w.cell? ⟨cl, 5, none⟩ = some (.pointer (some ⟨c, 0, none⟩)))
    (hg : w.cell? ⟨r, 7, none⟩ = some (.iface 39 (.pointer (some ⟨g, 0, none⟩))))
    (h0 : w.cell? ⟨g, 0, none⟩ = some (.int .i64 cs)) (f0 : w.frozen? ⟨g, 0, none⟩ = false) (h1 : w.cell? ⟨g, 1, none⟩ = some (.int .u32 ver)) :
    Calls Yba.prog 18 #[.pointer (some ⟨cl, 0, none⟩)] w fun e w' => e = .returned (.int .u32 ver) ∧ ∃ q, (w.setCell ⟨g, 0, none⟩ (.int .i64 (cs + 1))).drewN q = w' := by
  have hm := fun w => method_ver _ _ (by rw [Yba.underlying47]; simp only [verName]; rfl) rfl ⟨g, 0, none⟩ w
  simp only [List.getElem_toArray, List.getElem_cons_succ, List.getElem_cons_zero] at hm
  have n1' : ¬ g = cl := fun h => n1 h.symm
  have n2' : ¬ g = r := fun h => n2 h.symm
  go_enter Yba.func18, Yba.ntmps18
  go_wp2
  go_region_held3 (fun w' => w'.cell? ⟨cl, 4, none⟩ = some (.pointer (some ⟨r, 0, none⟩)) ∧ w'.cell? ⟨cl, 5, none⟩ = some (.pointer (some ⟨c, 0, none⟩)) ∧ w'.cell? ⟨r, 7, none⟩ = some (.iface 39 (.pointer (some ⟨g, 0, none⟩)))) (go_keep)
    (first | (go_at_call 48; refine (version_any g cs ver _ _ b1 b2 ?_ ?_ ?_).mono ?_; (simp [h0]); (simp [f0]); (simp [h1]); rintro e w' ⟨rfl, rfl⟩))
  go_wp2
  go_ret
  exact ⟨rfl, 1, rfl⟩

theorem next_none (w : World) (ty : TypeId) (st ck : Nat) (hm : w.heap[st]? = some (.map #[] ck)) :
    (Instr.next (.pointer (some ⟨w.heap.size, 0, none⟩)) false ty).run Yba.prog (w.alloc (.mapIter (some st) ck #[] ck)) = .ok (.tuple #[.bool false]) (w.alloc (.mapIter (some st) ck #[] ck)) := by
  rcases run_next_map (P := Yba.prog) w ty st ck ck #[] #[] ck hm (by simp) (Nat.le_refl _) with ⟨_, h⟩ | ⟨e, he, _⟩
  · exact h
  · simp [leftOf] at he

set_option maxRecDepth 100000 in
set_option maxHeartbeats 1000000 in
/-- (*cache).passed where nothing is stale: it does nothing. -/
theorem passed_none (ca st : Nat) (ck : Nat) (cp : Value) (fr to' : Int) (ver : Int) (w : World)
    (hs : w.cell? ⟨ca, 6, none⟩ = some (.map (some st))) (hm : w.heap[st]? = some (.map #[] ck)) :
    Calls Yba.prog 17 #[.pointer (some ⟨ca, 0, none⟩), cp, .int .i64 fr, .int .i64 to', .int .u32 ver] w fun e w' => e = .returned (.tuple #[]) ∧ w.alloc (.mapIter (some st) ck #[] ck) = w' := by
  have hrg := run_range_map (P := Yba.prog) w 62 9 23 st #[] ck Yba.underlying62 hm
  have hnx := fun ty => next_none w ty st ck hm
  go_enter Yba.func17, Yba.ntmps17
  go_wp2
  refine wp_loop_rounds 1 ?_
  rw [rounds_succ]
  go_wp2
  go_end0
  exact ⟨rfl, rfl⟩
end Go.Proofs.Ybulkbiwm.Th
