import Derived.Test.YbulkbjauLocks
import Derived.WalkKit
import Derived.WalkSpells
import Derived.Laws.LoneSync
import Derived.Defers
/-! TryLock on a free lock. -/
namespace Go.Proofs.Ybulkbjau
open Go.RowKit Go.MuLone
set_option linter.unusedVariables false

theorem room31 : (Yba.prog.info? 31).map (fun i => decide (i.size = 0)) = some false := by kernel_rfl
set_option maxRecDepth 100000 in
/-- A pointer turned into one of no type, where a cell stands: the same address. -/
theorem conv_bare (a : Addr) (v : Value) (w : World) (hc : w.cell? a = some v) : (convert 92 96 (.pointer (some a))).run Yba.prog w = .ok (.pointer (some a)) w := by
  obtain ⟨e, n, hsh, hlt, hsp⟩ := World.shape?_of_cell? hc
  have hge : ¬ (n ≤ a.off) := by omega
  obtain ⟨i, hi, hz0⟩ := Option.map_eq_some_iff.1 room31
  have hz : i.size ≠ 0 := by simpa using hz0
  have h92 := @run_underlying Yba.prog _ _ Yba.underlying92
  have h96 := @run_underlying Yba.prog _ _ Yba.underlying96
  simp [convert, h92, h96]
  show Sem.run Yba.prog (underlying 92 >>= _) w = _
  simp [h92, h96, Conv.seenAt, viewAt, cellsIn, sizeOf, typeInfo, hsh, hge, hi, hz, Result.andThen]

set_option maxRecDepth 100000 in
set_option maxHeartbeats 1000000 in
theorem tryLock (a : Addr) (w : World) (hc : w.cell? a = some (.int .i32 0)) (hz : w.frozen? a = false) :
    Calls Yba.prog 10 #[.pointer (some a)] w fun e w' => e = .returned (.bool true) ∧ w' = w.setCell a (.int .i32 1) := by
  have hd := run_call_mark0 (P := Yba.prog) Yba.func28 (by kernel_rfl) (by kernel_rfl) (by kernel_rfl) .disable (by kernel_rfl)
  have he := run_call_mark0 (P := Yba.prog) Yba.func29 (by kernel_rfl) (by kernel_rfl) (by kernel_rfl) .enable (by kernel_rfl)
  have ha := run_call_marked (P := Yba.prog) Yba.func31 (by kernel_rfl) (by kernel_rfl) (by kernel_rfl) .acquire (by kernel_rfl)
  have hcas := run_call_cas_hit (P := Yba.prog) Yba.func30 (by kernel_rfl) (by kernel_rfl) (by kernel_rfl) .i32 (by kernel_rfl) (y := 1) hc hz
  have hc' : (w.setCell a (.int .i32 1)).cell? a = some (.int .i32 1) := World.cell?_setCell_same w a _ hc
  have hcv := conv_bare a _ _ hc'
  have b1 : bits .and .i32 0 5 = 0 := by decide
  have b2 : bits .or .i32 0 1 = 1 := by decide
  have hnot : ∀ (x : Bool) (w : World), (Op.unary .not (.bool x)).run Yba.prog w = .ok (.bool (!x)) w := fun _ _ => rfl
  go_enter Yba.func10, Yba.ntmps10
  go_wp2
  go_ret
  exact ⟨rfl, rfl⟩
end Go.Proofs.Ybulkbjau
