import Derived.Test.YbulkbjauQD
import Derived.Deep.RegionLaw
import Derived.Deep.AppendLies
/-! The recording tasks. -/
namespace Go.Proofs.Ybulkbjau
open Go.RowKit
set_option linter.unusedVariables false
attribute [local go_sem ↓] Go.wp_at_zero Go.wp_at_succ

theorem Yba.info3 : (Yba.prog.info? 3).map (fun i => (i.zero, i.size, i.bytes)) = some (some (.int .i64 0), 1, 8) := by kernel_rfl

set_option maxRecDepth 100000 in
/-- zzs2997atask: two boxes and the closure over them. -/
theorem task_new (lg : Nat) (v : Int) (w : World) :
    Calls Yba.prog 8 #[.pointer (some ⟨lg, 0, none⟩), .int .i64 v] w fun e w' => e = .returned (tk (w.heap.size, w.heap.size + 1)) ∧ w' = (w.alloc (.cells #[.pointer (some ⟨lg, 0, none⟩)] 48)).alloc (.cells #[.int .i64 v] 3) := by
  have hmf : ∀ (fn : Fn) (first cap : Array Value) (w : World), (Instr.makeFunc fn first cap).run Yba.prog w = .ok (.func fn first cap) w := fun _ _ _ _ => rfl
  go_enter Yba.func8, Yba.ntmps8
  go_wp2
  go_ret
  exact ⟨rfl, rfl⟩

set_option maxRecDepth 100000 in
set_option maxHeartbeats 1000000 in
/-- The closure: it appends its value to the log. -/
theorem task_run (D lg lb vb : Nat) (v : Int) (lv : Value) (xs : List Value) (w : World) (hD : D ≤ w.heap.size) (hlg : lg < D) (hlb : lb < D) (hvb : vb < D) (hx : xs.length ≤ 1000)
    (kb : w.heap[lb]? = some (.cells #[.pointer (some ⟨lg, 0, none⟩)] 48 (0, 0))) (kv : w.heap[vb]? = some (.cells #[.int .i64 v] 3 (0, 0))) (kl : w.heap[lg]? = some (.cells #[lv] 23 (0, 0))) (hown : w.ownsRow D 3 1 lv xs.length xs) :
    Calls Yba.prog 19 #[.pointer (some ⟨lb, 0, none⟩), .pointer (some ⟨vb, 0, none⟩)] w fun e w' => e = .returned (.tuple #[]) ∧ ∃ lv', w'.heap[lg]? = some (.cells #[lv'] 23 (0, 0)) ∧
      w'.ownsRow D 3 1 lv' (xs.length + 1) (xs ++ [.int .i64 v]) ∧ Fr (fun k => k = lg ∨ lv.ownBlock = some k) w w' ∧ (lv'.ownBlock = lv.ownBlock ∨ ∃ b, lv'.ownBlock = some b ∧ w.heap.size ≤ b) := by
  obtain ⟨i0, hi, hz0, hz1, hz2⟩ := info_parts Yba.info3
  obtain ⟨W, hW⟩ : ∃ W, w.drew.alloc (.cells #[.int .i64 v] 3) = W := ⟨_, rfl⟩
  have sW : W.heap.size = w.heap.size + 1 := by rw [← hW]; simp
  have hnew : W.cell? ⟨w.heap.size, 0, none⟩ = some (.int .i64 v) := by rw [← hW]; exact cell_of (Go.heap_alloc_new w.drew _) 0
  have hownW : W.ownsRow D 3 1 lv xs.length xs := by
    rw [← hW]
    have q : w.drew.ownsRow D 3 1 lv xs.length xs := hown
    exact q.alloc _
  have hob := own_ge hown
  have frW : Fr (fun k => k = lg ∨ lv.ownBlock = some k) w W := hW ▸ (Fr.refl _ w).drew.alloc _
  have FACTS : Hid (∀ (g cap : Nat) (w1 : World), w1.ownsRow D 3 1 (.slice (some ⟨g, 0, none⟩) (xs.length + 1) cap) (xs.length + 1) (xs ++ [.int .i64 v]) → W.grownBy w1 lv.ownBlock → (lv.ownBlock = some g ∨ g = W.heap.size) →
      w1.cell? ⟨lb, 0, none⟩ = some (.pointer (some ⟨lg, 0, none⟩)) ∧ w1.cell? ⟨lg, 0, none⟩ = some lv ∧ w1.frozen? ⟨lg, 0, none⟩ = false ∧
      Hid ((w1.setCell ⟨lg, 0, none⟩ (.slice (some ⟨g, 0, none⟩) (xs.length + 1) cap)).heap[lg]? = some (.cells #[.slice (some ⟨g, 0, none⟩) (xs.length + 1) cap] 23 (0, 0)) ∧
        (w1.setCell ⟨lg, 0, none⟩ (.slice (some ⟨g, 0, none⟩) (xs.length + 1) cap)).ownsRow D 3 1 (.slice (some ⟨g, 0, none⟩) (xs.length + 1) cap) (xs.length + 1) (xs ++ [.int .i64 v]) ∧
        Fr (fun k => k = lg ∨ lv.ownBlock = some k) w (w1.setCell ⟨lg, 0, none⟩ (.slice (some ⟨g, 0, none⟩) (xs.length + 1) cap)) ∧
        ((Value.slice (some ⟨g, 0, none⟩) (xs.length + 1) cap).ownBlock = lv.ownBlock ∨ ∃ b, (Value.slice (some ⟨g, 0, none⟩) (xs.length + 1) cap).ownBlock = some b ∧ w.heap.size ≤ b))) := by
    intro g cap w1 hown1 hgr hg
    have B1 : ∀ k, k < D → w1.heap[k]? = w.heap[k]? := fun k hk => by
      rw [hgr.block k (by omega) (fun e => by have := hob k e.symm; omega), ← hW]
      exact Below.heap_alloc w.drew _ k (by simp; omega)
    have qq : Below D W w1 := (Below.refl D W).grown hgr (by omega) hob
    have fr1 : Fr (fun k => k = lg ∨ lv.ownBlock = some k) w w1 := ⟨qq.os.trans frW.os, qq.tape.trans frW.tape, qq.output.trans frW.output, Nat.le_trans frW.size qq.size, fun k hk hs => (hgr.block k (by omega) (fun e => hs (.inr e.symm))).trans (frW.block k hk hs)⟩
    have l1 : w1.heap[lg]? = some (.cells #[lv] 23 (0, 0)) := (B1 lg hlg).trans kl
    exact ⟨cell_of ((B1 lb hlb).trans kb) 0, cell_of l1 0, free_of l1 0, one_setCell l1, ownsRow_setCell_below hown1 hlg _, fr1.setCell (p := ⟨lg, 0, none⟩) (.inl (.inl rfl)) _, by
      rcases hg with e | e
      · exact .inl e.symm
      · exact .inr ⟨g, rfl, by omega⟩⟩
  have a1 : w.cell? ⟨lb, 0, none⟩ = some (.pointer (some ⟨lg, 0, none⟩)) := cell_of kb 0
  have a2 : w.cell? ⟨vb, 0, none⟩ = some (.int .i64 v) := cell_of kv 0
  have a3 : w.cell? ⟨lg, 0, none⟩ = some lv := cell_of kl 0
  have b1 : W.cell? ⟨lb, 0, none⟩ = some (.pointer (some ⟨lg, 0, none⟩)) := by rw [← hW, World.cell?_alloc_past _ _ _ (by simp; omega)]; exact a1
  have b3 : W.cell? ⟨lg, 0, none⟩ = some lv := by rw [← hW, World.cell?_alloc_past _ _ _ (by simp; omega)]; exact a3
  have OWN := hid hownW
  have NEWS : Hid (∀ (j : Nat) (u : Value), [Value.int .i64 v][j]? = some u → W.cell? ((⟨w.heap.size, 0, none⟩ : Addr).add j) = some u) := fun j u hj => by
    cases j with
    | zero => simp at hj; subst hj; exact hnew
    | succ j => simp at hj
  have ONE : Hid (∀ u ∈ [Value.int .i64 v], u.oneCell' = true) := by intro u hu; simp at hu; subst hu; rfl
  have HM : Hid (xs.length + 1 ≤ maxLen) := by show _ ≤ maxLen; unfold maxLen; omega
  have HB : Hid ((xs.length + 1) * 8 ≤ 140737488355328) := by show _ ≤ _; omega
  have HD : Hid (D ≤ W.heap.size) := by show _ ≤ _; omega
  clear hown hownW hob frW kb kv kl hnew
  go_enter Yba.func19, Yba.ntmps19
  go_wp2
  go_region_law (refine step_append_lies _ rfl (.tmp 5) (.tmp 7) 23 rfl D 3 i0 (.int .i64 0) 1 8 Yba.underlying23 hi hz0 hz1 hz2 rfl (by decide) lv xs.length xs (by simp [Act.eval]) OWN.out ⟨w.heap.size, 0, none⟩ 1 1 [.int .i64 v] (by simp [Act.eval]) rfl NEWS.out ONE.out (by omega) HM.out HB.out HD.out _ rfl ?_; intro g cap w1 ho hgr hg _; obtain ⟨e1, e3, f3, FIN⟩ := FACTS.out g cap w1 ho hgr hg; clear ho hgr hg)
  all_goals (go_end0; exact ⟨rfl, _, FIN.out⟩)
end Go.Proofs.Ybulkbjau
