import Derived.Test.YbulkbiwmMember
import Derived.Deep.QuietTactic
import Derived.BigQuiet
/-! The walk of zzs2989cmodel (function 11). -/
namespace Go.Proofs.Ybulkbiwm
open Go.RowKit PlainC

theorem Yba.info9 : (Yba.prog.info? 9).map (fun i => (i.zero, i.size, i.bytes)) = some (some (.string ⟨#[]⟩), 1, 16) := by kernel_rfl

set_option maxRecDepth 100000 in
set_option maxHeartbeats 1000000 in
theorem model_any (s : ByteArray) (a1 a2 : Option Addr) (c1 c2 : Nat) (ns os : List ByteArray) (w : World) (l1 : ns.length ≤ 1024) (l2 : os.length ≤ 1024)
    (h1 : StrAt w a1 c1 ns) (h2 : StrAt w a2 c2 os) :
    Calls Yba.prog 11 #[.string s, .slice a1 ns.length c1, .slice a2 os.length c2] w fun e w' => e = .returned (.tuple #[.int .i64 (pos s (ns ++ os)), .string (nm s (ns ++ os))]) ∧ Below w.heap.size w w' := by
  obtain ⟨i0, hi, hz0, hz1, hz2⟩ := info_parts Yba.info9
  go_enter Yba.func11, Yba.ntmps11
  go_wp2_with (at_make; refine wpList_make_own _ rfl _ _ 43 rfl w.heap.size 9 i0 (.string ⟨#[]⟩) 1 Yba.underlying43 hi hz0 hz1 _ _ _ (ns.length + os.length) rfl rfl (by omega) ?b2 ?b3 (Nat.le_refl _) ?_)
  case b2 => rw [hz2]; omega
  case b3 => unfold maxLen; omega
  intro w0 hown0 hgrow0
  have B0 : Below w.heap.size w w0 := (Below.refl _ _).grown hgrow0 (Nat.le_refl _) (fun k h => by cases h)
  have G1 := hid (h1.below B0)
  have G2 := hid (h2.below B0)
  go_wp2_with (at_builtin; refine wpList_append_fits_any _ rfl (.tmp 16) (.tmp 17) 43 rfl w.heap.size 9 i0 1 Yba.underlying43 hi hz1 w.heap.size 0 (ns.length + os.length) _ rfl hown0 _ ns.length _ (ns.map Value.string) rfl (by simp) G1.out.nil G1.out.src (strs_oneCell _) (by omega) ?_)
  intro w1 hown1 hgrow1
  have B1 : Below w.heap.size w w1 := B0.grown hgrow1 B0.size (fun k h => by cases h; exact Nat.le_refl _)
  have G3 := hid (h2.below B1)
  clear G1 G2 hown0 hgrow0 hgrow1
  go_wp2_with (at_builtin; refine wpList_append_fits_any _ rfl (.tmp 19) (.tmp 20) 43 rfl w.heap.size 9 i0 1 Yba.underlying43 hi hz1 w.heap.size ns.length (ns.length + os.length) _ rfl hown1 _ os.length _ (os.map Value.string) rfl (by simp) G3.out.nil G3.out.src (strs_oneCell _) (by omega) ?_)
  intro w2 hown2 hgrow2
  have B2 : Below w.heap.size w w2 := B1.grown hgrow2 B1.size (fun k h => by cases h; exact Nat.le_refl _)
  have hcells : ∀ j, j < ns.length + os.length → w2.cell? ⟨w.heap.size, j, none⟩ = some (.string ((ns ++ os).getD j ByteArray.empty)) := by
    intro j hj
    have e : ((ns ++ os).map Value.string)[j]? = some (.string ((ns ++ os).getD j ByteArray.empty)) := by
      have : j < (ns ++ os).length := by simpa using hj
      simp only [List.getElem?_map, List.getElem?_eq_getElem this, List.getD, Option.map_some, Option.getD_some]
    rw [← e, List.map_append]
    exact hown2.cellAt j (by omega)
  clear G3 hown1 hgrow2 hown2
  have HC := hid hcells
  clear hcells
  go_wp2
  go_loop [9] (fun i => ∃ k : Nat, k ≤ ns.length + os.length ∧ i = .int .i64 k ∧ Miss s (ns ++ os) k) (fun i => ns.length + os.length - (intOf i).toNat)
  case atStart => exact ⟨0, Nat.zero_le _, rfl, Miss.zero _ _⟩
  case round =>
    obtain ⟨k, hk, rfl, hm⟩ := hrel
    by_cases hlt : k < ns.length + os.length
    · obtain ⟨x, hx⟩ : ∃ x, x = (ns ++ os).getD k ByteArray.empty := ⟨_, rfl⟩
      have hck := HC.out k hlt
      rw [← hx] at hck
      have HX := hid hx
      clear hx
      go_wp2
      · have hq : (x.toList == s.toList) = true := by assumption
        have hs := eq_of_bytes hq
        have R := pos_hit (by simpa using hlt) hm (HX.out.symm.trans hs)
        go_quiet (fail)
        go_wp2
        go_ret2
        exact ⟨ret2 R.1.symm R.2.symm, below_drewN B2 _⟩
      · have hq : (x.toList == s.toList) = false := by assumption
        have hs := ne_of_bytes hq
        have R : Miss s (ns ++ os) (k + 1) := hm.succ (by rw [← HX.out]; exact hs)
        go_round
        case rel => exact ⟨k + 1, by omega, by go_num, R⟩
        case measure => simp [intOf]; omega
    · have hkn : k = (ns ++ os).length := by simp; omega
      have HM : Hid (Miss s (ns ++ os) (ns ++ os).length) := by rw [← hkn]; exact hm
      clear hkn hm
      go_wp2
      have R := pos_miss HM.out
      go_ret2
      exact ⟨ret2 R.1.symm R.2.symm, B2⟩
end Go.Proofs.Ybulkbiwm
