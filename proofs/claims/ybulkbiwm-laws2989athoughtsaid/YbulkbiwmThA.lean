import Derived.Test.YbulkbiwmRows
import Derived.WalkKit
import Derived.WalkSpells
import Derived.WalkLawsBesides
import Derived.Deep.QuietTactic
import Derived.BigQuiet
import Derived.Deep.RegionHeld3
import Derived.Deep.DrawnRows
/-! LawS2989AThought: the small callees. -/
namespace Go.Proofs.Ybulkbiwm.Th
open Go.RowKit
set_option linter.unusedVariables false
attribute [local go_sem ↓] Go.wp_at_zero Go.wp_at_succ

set_option maxRecDepth 100000 in
set_option maxHeartbeats 1000000 in
/-- (*zzs2989aguard).version -/
theorem version_any (g : Nat) (cs ver : Int) (cp : Value) (w : World) (b1 : 0 ≤ cs) (b2 : cs ≤ 100)
    (h0 : w.cell? ⟨g, 0, none⟩ = some (.int .i64 cs)) (f0 : w.frozen? ⟨g, 0, none⟩ = false) (h1 : w.cell? ⟨g, 1, none⟩ = some (.int .u32 ver)) :
    Calls Yba.prog 48 #[.pointer (some ⟨g, 0, none⟩), cp] w fun e w' => e = .returned (.int .u32 ver) ∧ w.setCell ⟨g, 0, none⟩ (.int .i64 (cs + 1)) = w' := by
  go_enter Yba.func48, Yba.ntmps48
  go_wp2
  go_ret
  exact ⟨rfl, rfl⟩

set_option maxRecDepth 100000 in
set_option maxHeartbeats 1000000 in
/-- (*Cycle).placeStart, a place ahead of the last one's end -/
theorem placeStart_in (c b n cap k : Nat) (x : Int) (w : World) (hk : k < n) (hn : n ≤ 1024)
    (hp : w.cell? ⟨c, 10, none⟩ = some (.slice (some ⟨b, 0, none⟩) n cap)) (hx : w.cell? ⟨b, k * 2, none⟩ = some (.int .i64 x)) :
    Calls Yba.prog 14 #[.pointer (some ⟨c, 0, none⟩), .int .i64 k] w fun e w' => e = .returned (.int .i64 x) ∧ w = w' := by
  go_enter Yba.func14, Yba.ntmps14
  go_wp2
  go_ret
  exact ⟨rfl, rfl⟩

set_option maxRecDepth 100000 in
set_option maxHeartbeats 1000000 in
/-- (*Cycle).placeStart, at or behind the last place -/
theorem placeStart_out (c b n cap k : Nat) (st by' en : Int) (w : World) (hk : n ≤ k) (hn : n ≤ 1024) (hk2 : k ≤ 4096) (s1 : -2147483648 ≤ st ∧ st ≤ 2147483647) (s2 : 0 ≤ by' ∧ by' ≤ 1000000) (he : st + by' = en)
    (hp : w.cell? ⟨c, 10, none⟩ = some (.slice (some ⟨b, 0, none⟩) n cap)) (hs : w.cell? ⟨c, 9, none⟩ = some (.int .i64 st)) (hb : w.cell? ⟨c, 5, none⟩ = some (.int .i64 by')) :
    Calls Yba.prog 14 #[.pointer (some ⟨c, 0, none⟩), .int .i64 k] w fun e w' => e = .returned (.int .i64 en) ∧ ∃ q, w.drewN q = w' := by
  go_enter Yba.func14, Yba.ntmps14
  go_wp2
  go_quiet (fail)
  go_wp2
  go_ret
  exact ⟨rfl, _, rfl⟩
end Go.Proofs.Ybulkbiwm.Th
