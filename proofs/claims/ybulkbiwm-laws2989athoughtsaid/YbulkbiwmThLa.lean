import Derived.Test.YbulkbiwmThL
/-! LawS2989AThought: the law, no cache. -/
namespace Go.Proofs.Ybulkbiwm.Th
open Go.RowKit
set_option linter.unusedVariables false

set_option maxRecDepth 100000 in
set_option maxHeartbeats 4000000 in
theorem law_plain (start : Int) (a1 : Option Addr) (len cap : Nat) (z : Nat → Int) (ni fs ex no ro wt : Int) (ver : Int) (w : World) (hlen : len ≤ 1024) (hz : ∀ k, 0 ≤ z k ∧ z k ≤ 255)
    (hs : -2147483648 ≤ start ∧ start ≤ 2147483647) (n1 : 0 ≤ ni ∧ ni ≤ 255) (f1 : 0 ≤ fs ∧ fs ≤ 255) (x1 : 0 ≤ ex ∧ ex ≤ 255) (no1 : -2147483648 ≤ no ∧ no ≤ 2147483647) (ro1 : -2147483648 ≤ ro ∧ ro ≤ 2147483647) (wt1 : wt ≤ 9223372036854775807)
    (hsrc : ∀ k, k < len → ∃ ad, a1 = some ad ∧ w.cell? (ad.add k) = some (.int .u8 (z k))) :
    Calls Yba.prog 3 #[.int .i32 start, .slice a1 len cap, .int .u8 ni, .int .u8 fs, .int .u8 ex, .int .i32 no, .int .i32 ro, .int .i64 wt, .bool false, .int .u32 ver] w fun e w' => e = .returned (.bool true) ∧ Below w.heap.size w w' := by
  have hmk := mk_places len hlen
  have HZ : Hid _ := hz
  have HSRC : Hid _ := hsrc
  clear hz hsrc
  go_enter Yba.func3, Yba.ntmps3
  go_wp2
  go_loopw [51, 23] (fun i o wr => ∃ k : Nat, k ≤ len ∧ i = .int .i64 k ∧ o = .int .i64 (pre start z k) ∧ Row w.heap.size len (pre start z) k wr ∧ Below w.heap.size w wr) (fun i _ _ => len - (intOf i).toNat)
  case atStart => exact ⟨0, Nat.zero_le _, rfl, rfl, Row.start _ _ _, (Below.refl _ _).alloc (Nat.le_refl _) _⟩
  case round =>
    obtain ⟨k, hk, rfl, rfl, hrow, hbel⟩ := hrel
    have hpb := pre_bd start z HZ.out k
    have hzk := HZ.out k
    by_cases hlt : k < len
    · obtain ⟨ad, ha, hc⟩ := HSRC.out k hlt
      obtain ⟨⟨v0, g0⟩, ⟨v1, g1⟩, g2, g3⟩ := hrow.cells hlt
      have hix : (Instr.indexAt 22 (.slice a1 len cap) (.int .i64 k)).run Yba.prog wr = .ok (.pointer (some (ad.add k))) wr := idx_at ha hlt wr
      have hc' : wr.cell? (ad.add k) = some (.int .u8 (z k)) := by rw [hbel.cell (World.block_lt_of_cell? _ _ hc)]; exact hc
      have HA : Hid _ := ha
      clear ha hc
      have HR : Hid _ := hrow
      clear hrow
      go_wp2
      go_roundw
      case rel => exact ⟨k + 1, by omega, by go_num, rfl, Row.next HR.out hlt _, (hbel.setCell (Nat.le_refl _) _).setCell (Nat.le_refl _) _⟩
      case measure => simp [intOf]; omega
    · have hkl : k = len := by omega
      rw [hkl] at hrow hpb
      have HR : Hid _ := hrow
      have HL : Hid _ := hkl
      clear hrow hkl hzk
      obtain ⟨nn, hnn, hnl⟩ : ∃ nn : Nat, ni % ((len : Int) + 1) = (nn : Int) ∧ nn ≤ len := ⟨(ni % ((len : Int) + 1)).toNat, by have := Int.emod_nonneg ni (show ((len : Int) + 1) ≠ 0 by omega); omega, by have := Int.emod_lt_of_pos ni (show 0 < (len : Int) + 1 by omega); omega⟩
      obtain ⟨ff, hff, hfl⟩ : ∃ ff : Nat, fs % ((len : Int) + 1) = (ff : Int) ∧ ff ≤ len := ⟨(fs % ((len : Int) + 1)).toNat, by have := Int.emod_nonneg fs (show ((len : Int) + 1) ≠ 0 by omega); omega, by have := Int.emod_lt_of_pos fs (show 0 < (len : Int) + 1 by omega); omega⟩
      have hmi := mk_items nn (by omega)
      obtain ⟨P, hP⟩ : ∃ P, pre start z len = P := ⟨_, rfl⟩
      rw [HL.out, hP] 
      rw [hP] at hpb
      obtain ⟨N, hN⟩ : ∃ N, wr.heap.size = N := ⟨_, rfl⟩
      have hHN : w.heap.size < N := by rw [← hN]; exact Row.lt HR.out
      have ok : (qn N w.heap.size nn len (P + ex - start) start ver (start + ro)).Ok := ⟨by simp [qn]; omega, by simp [qn], by simp [qn], by simp [qn], (fun h => by cases h), hlen, hnl, hs, by simp [qn]; omega⟩
      obtain ⟨res, fr', nw', wt', m, hm0, hm1, HM, HT⟩ := same_any _ ok (pre start z) (P + ex) ff (start + no) wt hfl (by simp [qn]; omega) (fun a b h _ => pre_mono start z HZ.out a b h) wt1
      have PM : Hid _ := (Row.pm HR.out).below (Wn_below hN w.heap.size nn len ff (P + ex - start) start ver wt (start + ro) (start + no)) hHN
      have HM' : Hid _ := HM (Wn wr N w.heap.size nn len ff (P + ex - start) start ver wt (start + ro) (start + no)) (by rw [Wn_size hN]; show w.heap.size < N + 5; omega) PM
      have HT' : Hid _ := HT
      have HN : Hid _ := hN
      clear HM HT
      go_wp2_with fail
      refine Calls.mono HM' ?_
      rintro e w1 ⟨rfl, hb1⟩
      have S1 : Hid _ := (Wn_st hN w.heap.size nn len ff (P + ex - start) start ver wt (start + ro) (start + no)).below hb1
      go_wp2_with fail
      refine Calls.mono (HT' _ (S1.out.alloc _) ((Pm.below (Pm.below PM hb1 (by rw [Wn_size hN]; show w.heap.size < N + 5; omega)) ((Below.refl _ _).alloc (Nat.le_refl _) _) (Nat.lt_of_lt_of_le (by rw [Wn_size hN]; show w.heap.size < N + 5; omega) hb1.size)))) ?_
      rintro e w2 ⟨rfl, hs2, hk2⟩
      have e1 : N + 5 ≤ w1.heap.size := by have := hb1.size; rw [Wn_size hN] at this; exact this
      obtain ⟨X, hX⟩ : ∃ X, w1.heap.size = X := ⟨_, rfl⟩
      have hwant : w2.heap[X]? = some (.cells #[.bool res, .int .i64 fr', .int .i64 nw', .int .i64 wt', .int .i64 m] 68 (0, 0)) :=
        (hk2.block X (by simp; omega) (by simp [qn]; omega) (by simp [qn]; omega) (by simp [qn]; omega)).trans (push_at hX.symm)
      have d0 : w2.cell? ⟨X, 0, none⟩ = some (.bool res) := cell_of hwant 0
      have d1 : w2.cell? ⟨X, 1, none⟩ = some (.int .i64 fr') := cell_of hwant 1
      have d2 : w2.cell? ⟨X, 2, none⟩ = some (.int .i64 nw') := cell_of hwant 2
      have d3 : w2.cell? ⟨X, 3, none⟩ = some (.int .i64 wt') := cell_of hwant 3
      have k3 : w2.cell? ⟨N + 1 + 1 + 1 + 1, 3, none⟩ = some (.pointer none) := hs2.cells.1
      have k4 : w2.cell? ⟨N + 1 + 1 + 1 + 1, 4, none⟩ = some (.pointer (some ⟨N + 1 + 1 + 1, 0, none⟩)) := hs2.cells.2.1
      have k5 : w2.cell? ⟨N + 1 + 1 + 1 + 1, 5, none⟩ = some (.pointer (some ⟨N + 1, 0, none⟩)) := hs2.cells.2.2.1
      have k6 : w2.cell? ⟨N + 1 + 1 + 1 + 1, 6, none⟩ = some (.int .i64 fr') := hs2.cells.2.2.2.1
      have k7 : w2.cell? ⟨N + 1 + 1 + 1 + 1, 7, none⟩ = some (.int .i64 nw') := hs2.cells.2.2.2.2.1
      have k10 : w2.cell? ⟨N + 1 + 1 + 1, 10, none⟩ = some (.int .i64 wt') := hs2.cells.2.2.2.2.2.2.1
      have k11 : w2.cell? ⟨N + 1 + 1 + 1, 11, none⟩ = some (.int .i64 (start + ro)) := hs2.cells.2.2.2.2.2.2.2.1
      have k0 : w2.cell? ⟨N + 1 + 1, 0, none⟩ = some (.int .i64 (m * 0)) := hs2.cells.2.2.2.2.2.2.2.2.1
      rw [Int.mul_zero] at k0
      have BB : Below w.heap.size w w2 := ((((hbel.trans ((Wn_below hN w.heap.size nn len ff (P + ex - start) start ver wt (start + ro) (start + no)).mono (by omega))).trans (hb1.mono (by rw [Wn_size hN]; omega))).alloc (by omega) _)).trans (hk2.below (by simp [qn]; omega) (by simp [qn]; omega) (by simp [qn]; omega) (by simp; omega))
      clear hs2 hk2 hb1 S1 HT' HM' PM hwant hmk hmi HN
      go_wp2
      go_quiet (fail)
      have q1 := neq42
      have q2 := neq28
      go_wp2
      go_ret
      exact ⟨rfl, below_drewN BB _⟩

end Go.Proofs.Ybulkbiwm.Th
