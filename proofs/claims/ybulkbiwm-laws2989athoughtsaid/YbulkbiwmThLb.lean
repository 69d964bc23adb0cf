import Derived.Test.YbulkbiwmThL
import Derived.WideLaws
/-! LawS2989AThought: the law, a cache. -/
namespace Go.Proofs.Ybulkbiwm.Th
open Go.RowKit
set_option linter.unusedVariables false

theorem len62 (w : World) (r : Nat) (hb : w.heap[r]? = some (.map #[] 0)) : (Builtin.len_ #[62] 3 #[.map (some r)]).run Yba.prog w = .ok (.int .i64 0) w := run_len_map w 62 3 r #[] 0 (by kernel_rfl) hb
theorem len61 (w : World) (r : Nat) (hb : w.heap[r]? = some (.map #[] 0)) : (Builtin.len_ #[61] 3 #[.map (some r)]).run Yba.prog w = .ok (.int .i64 0) w := run_len_map w 61 3 r #[] 0 (by kernel_rfl) hb

/-- The world as the law lays it ahead of the two calls, where the client has a cache. -/
def Wc (wr : World) (N H nn len ff : Nat) (by' start ver wt rd nw : Int) : World :=
  ((((((((((wr.alloc (.cells (Zi nn) 94)).alloc
    (.cells #[.int .u32 0, .slice (some ⟨N, 0, none⟩) nn nn, .pointer none, .pointer none, .pointer none, .int .i64 by', .int .u64 0, .map none, .map none, .int .i64 start, .slice (some ⟨H, 0, none⟩) len len] 38)).alloc
    (.cells #[.int .i64 0, .int .u32 ver] 41)).alloc
    (.cells #[.int .u32 0, .bool false, .slice none 0 0, .int .i64 0, .int .u32 0, .int .i64 0, .int .i64 0, .iface 39 (.pointer (some ⟨N + 1 + 1, 0, none⟩)), .slice none 0 0, .map none, .int .i64 wt, .int .i64 rd] 51)).alloc
    (.cells #[.int .i64 0, .int .i64 0, .slice none 0 0, .pointer (some ⟨N + 1 + 1 + 1 + 1 + 1 + 1 + 1 + 1 + 1, 0, none⟩), .pointer (some ⟨N + 1 + 1 + 1, 0, none⟩), .pointer (some ⟨N + 1, 0, none⟩), .int .i64 ff, .int .i64 nw, .nilFunc, .bool false, .bool false, .bool false] 58)).alloc
    (.cells #[.pointer (some ⟨N + 1 + 1 + 1 + 1 + 1, 0, none⟩), .pointer (some ⟨N + 1 + 1 + 1 + 1 + 1, 0, none⟩), .pointer none, .nilIface, .int .i64 0] 83)).alloc
    (.map #[] 0)).alloc
    (.map #[] 0)).alloc
    (.map #[] 0)).alloc
    (.cells #[.int .i64 4, .nilFunc, .bool false, .pointer (some ⟨N + 1 + 1 + 1 + 1 + 1, 0, none⟩), .map (some (N + 1 + 1 + 1 + 1 + 1 + 1)), .map (some (N + 1 + 1 + 1 + 1 + 1 + 1 + 1)), .map (some (N + 1 + 1 + 1 + 1 + 1 + 1 + 1 + 1))] 66))
def cac (N : Nat) : Array Value := #[.int .i64 4, .nilFunc, .bool false, .pointer (some ⟨N + 1 + 1 + 1 + 1 + 1, 0, none⟩), .map (some (N + 1 + 1 + 1 + 1 + 1 + 1)), .map (some (N + 1 + 1 + 1 + 1 + 1 + 1 + 1)), .map (some (N + 1 + 1 + 1 + 1 + 1 + 1 + 1 + 1))]
def lic (N : Nat) : Array Value := #[.pointer (some ⟨N + 1 + 1 + 1 + 1 + 1, 0, none⟩), .pointer (some ⟨N + 1 + 1 + 1 + 1 + 1, 0, none⟩), .pointer none, .nilIface, .int .i64 0]
def qc (N H nn len : Nat) (by' start ver rd : Int) : Cf :=
  { cl := N + 1 + 1 + 1 + 1, r := N + 1 + 1 + 1, c := N + 1, g := N + 1 + 1, b := H, ib := N, ca := N + 1 + 1 + 1 + 1 + 1 + 1 + 1 + 1 + 1, st := N + 1 + 1 + 1 + 1 + 1 + 1 + 1 + 1, ck := 0, n := len, ni := nn, use := true, rd := rd, ver := ver, start := start, by' := by', cc := cac N }
theorem Wc_heap (wr : World) (N H nn len ff : Nat) (by' start ver wt rd nw : Int) : (Wc wr N H nn len ff by' start ver wt rd nw).heap =
    (((((((((wr.heap.push (.cells (Zi nn) 94)).push (.cells (qc N H nn len by' start ver rd).C 38)).push (.cells ((qc N H nn len by' start ver rd).G 0) 41)).push (.cells ((qc N H nn len by' start ver rd).R wt) 51)).push (.cells ((qc N H nn len by' start ver rd).CL ff nw) 58)).push (.cells (lic N) 83)).push (.map #[] 0)).push (.map #[] 0)).push (.map #[] 0)).push (.cells (cac N) 66) := rfl
theorem Wc_size {wr : World} {N : Nat} (hN : wr.heap.size = N) (H nn len ff : Nat) (by' start ver wt rd nw : Int) : (Wc wr N H nn len ff by' start ver wt rd nw).heap.size = N + 10 := by
  rw [Wc_heap]
  simp [hN]
theorem Wc_below {wr : World} {N : Nat} (hN : wr.heap.size = N) (H nn len ff : Nat) (by' start ver wt rd nw : Int) : Below N wr (Wc wr N H nn len ff by' start ver wt rd nw) := by
  subst hN
  exact ((((((((((Below.refl _ _).alloc (Nat.le_refl _) _).alloc (by simp) _).alloc (by simp; omega) _).alloc (by simp; omega) _).alloc (by simp; omega) _).alloc (by simp; omega) _).alloc (by simp; omega) _).alloc (by simp; omega) _).alloc (by simp; omega) _).alloc (by simp; omega) _
/-- The blocks of that world. -/
theorem Wc_blocks {wr : World} {N : Nat} (hN : wr.heap.size = N) (H nn len ff : Nat) (by' start ver wt rd nw : Int) :
    (Wc wr N H nn len ff by' start ver wt rd nw).heap[N + 1]? = some (.cells (qc N H nn len by' start ver rd).C 38) ∧ (Wc wr N H nn len ff by' start ver wt rd nw).heap[N + 1 + 1]? = some (.cells ((qc N H nn len by' start ver rd).G 0) 41) ∧
    (Wc wr N H nn len ff by' start ver wt rd nw).heap[N + 1 + 1 + 1]? = some (.cells ((qc N H nn len by' start ver rd).R wt) 51) ∧ (Wc wr N H nn len ff by' start ver wt rd nw).heap[N + 1 + 1 + 1 + 1]? = some (.cells ((qc N H nn len by' start ver rd).CL ff nw) 58) ∧
    (Wc wr N H nn len ff by' start ver wt rd nw).heap[N + 1 + 1 + 1 + 1 + 1]? = some (.cells (lic N) 83) ∧ (Wc wr N H nn len ff by' start ver wt rd nw).heap[N + 1 + 1 + 1 + 1 + 1 + 1]? = some (.map #[] 0) ∧
    (Wc wr N H nn len ff by' start ver wt rd nw).heap[N + 1 + 1 + 1 + 1 + 1 + 1 + 1 + 1]? = some (.map #[] 0) ∧ (Wc wr N H nn len ff by' start ver wt rd nw).heap[N + 1 + 1 + 1 + 1 + 1 + 1 + 1 + 1 + 1]? = some (.cells (cac N) 66) := by
  rw [Wc_heap]
  refine ⟨?_, ?_, ?_, ?_, ?_, ?_, ?_, ?_⟩
  all_goals
    repeat (first | (refine push_at ?_; simp only [Array.size_push, hN]; done) | (refine (push_old ?_).trans ?_; · (simp only [Array.size_push, hN]; omega)))
theorem Wc_st {wr : World} {N : Nat} (hN : wr.heap.size = N) (H nn len ff : Nat) (by' start ver wt rd nw : Int) : St (qc N H nn len by' start ver rd) (Wc wr N H nn len ff by' start ver wt rd nw) ff nw wt 0 := by
  obtain ⟨b1, b2, b3, b4, b5, b6, b7, b8⟩ := Wc_blocks hN H nn len ff by' start ver wt rd nw
  exact ⟨b4, b3, b2, b1, fun _ => ⟨b8, rfl, b7⟩⟩

set_option maxRecDepth 100000 in
set_option maxHeartbeats 4000000 in
theorem law_cache (start : Int) (a1 : Option Addr) (len cap : Nat) (z : Nat → Int) (ni fs ex no ro wt : Int) (ver : Int) (w : World) (hlen : len ≤ 1024) (hz : ∀ k, 0 ≤ z k ∧ z k ≤ 255)
    (hs : -2147483648 ≤ start ∧ start ≤ 2147483647) (n1 : 0 ≤ ni ∧ ni ≤ 255) (f1 : 0 ≤ fs ∧ fs ≤ 255) (x1 : 0 ≤ ex ∧ ex ≤ 255) (no1 : -2147483648 ≤ no ∧ no ≤ 2147483647) (ro1 : -2147483648 ≤ ro ∧ ro ≤ 2147483647) (wt1 : wt ≤ 9223372036854775807)
    (hsrc : ∀ k, k < len → ∃ ad, a1 = some ad ∧ w.cell? (ad.add k) = some (.int .u8 (z k))) :
    Calls Yba.prog 3 #[.int .i32 start, .slice a1 len cap, .int .u8 ni, .int .u8 fs, .int .u8 ex, .int .i32 no, .int .i32 ro, .int .i64 wt, .bool true, .int .u32 ver] w fun e w' => e = .returned (.bool true) ∧ Below w.heap.size w w' := by
  have hmk := mk_places len hlen
  have HZ : Hid _ := hz
  have HSRC : Hid _ := hsrc
  clear hz hsrc
  go_enter Yba.func3, Yba.ntmps3
  go_wp2
  go_loopw [51, 23] (fun i o wr => ∃ k : Nat, k ≤ len ∧ i = .int .i64 k ∧ o = .int .i64 (pre start z k) ∧ Row w.heap.size len (pre start z) k wr ∧ Below w.heap.size w wr) (fun i _ _ => len - (intOf i).toNat)
  case atStart => exact ⟨0, Nat.zero_le _, rfl, rfl, Row.start _ _ _, (Below.refl _ _).alloc (Nat.le_refl _) _⟩
  case round =>
    obtain ⟨k, hk, rfl, rfl, hrow, hbel⟩ := hrel
    have hpb := pre_bd start z HZ.out k
    have hzk := HZ.out k
    by_cases hlt : k < len
    · obtain ⟨ad, ha, hc⟩ := HSRC.out k hlt
      obtain ⟨⟨v0, g0⟩, ⟨v1, g1⟩, g2, g3⟩ := hrow.cells hlt
      have hix : (Instr.indexAt 22 (.slice a1 len cap) (.int .i64 k)).run Yba.prog wr = .ok (.pointer (some (ad.add k))) wr := idx_at ha hlt wr
      have hc' : wr.cell? (ad.add k) = some (.int .u8 (z k)) := by rw [hbel.cell (World.block_lt_of_cell? _ _ hc)]; exact hc
      have HA : Hid _ := ha
      clear ha hc
      have HR : Hid _ := hrow
      clear hrow
      go_wp2
      go_roundw
      case rel => exact ⟨k + 1, by omega, by go_num, rfl, Row.next HR.out hlt _, (hbel.setCell (Nat.le_refl _) _).setCell (Nat.le_refl _) _⟩
      case measure => simp [intOf]; omega
    · have hkl : k = len := by omega
      rw [hkl] at hrow hpb
      have HR : Hid _ := hrow
      have HL : Hid _ := hkl
      clear hrow hkl hzk
      obtain ⟨nn, hnn, hnl⟩ : ∃ nn : Nat, ni % ((len : Int) + 1) = (nn : Int) ∧ nn ≤ len := ⟨(ni % ((len : Int) + 1)).toNat, by have := Int.emod_nonneg ni (show ((len : Int) + 1) ≠ 0 by omega); omega, by have := Int.emod_lt_of_pos ni (show 0 < (len : Int) + 1 by omega); omega⟩
      obtain ⟨ff, hff, hfl⟩ : ∃ ff : Nat, fs % ((len : Int) + 1) = (ff : Int) ∧ ff ≤ len := ⟨(fs % ((len : Int) + 1)).toNat, by have := Int.emod_nonneg fs (show ((len : Int) + 1) ≠ 0 by omega); omega, by have := Int.emod_lt_of_pos fs (show 0 < (len : Int) + 1 by omega); omega⟩
      have hmi := mk_items nn (by omega)
      obtain ⟨P, hP⟩ : ∃ P, pre start z len = P := ⟨_, rfl⟩
      rw [HL.out, hP] 
      rw [hP] at hpb
      obtain ⟨N, hN⟩ : ∃ N, wr.heap.size = N := ⟨_, rfl⟩
      have hHN : w.heap.size < N := by rw [← hN]; exact Row.lt HR.out
      have ok : (qc N w.heap.size nn len (P + ex - start) start ver (start + ro)).Ok := ⟨by simp [qc]; omega, by simp [qc], by simp [qc], by simp [qc], (fun _ => by simp [qc]), hlen, hnl, hs, by simp [qc]; omega⟩
      obtain ⟨res, fr', nw', wt', m, hm0, hm1, HM, HT⟩ := same_any _ ok (pre start z) (P + ex) ff (start + no) wt hfl (by simp [qc]; omega) (fun a b h _ => pre_mono start z HZ.out a b h) wt1
      have PM : Hid _ := (Row.pm HR.out).below (Wc_below hN w.heap.size nn len ff (P + ex - start) start ver wt (start + ro) (start + no)) hHN
      have HM' : Hid _ := HM (Wc wr N w.heap.size nn len ff (P + ex - start) start ver wt (start + ro) (start + no)) (by rw [Wc_size hN]; show w.heap.size < N + 10; omega) PM
      have HT' : Hid _ := HT
      have HN : Hid _ := hN
      clear HM HT
      have hmm := @run_makeMap Yba.prog
      go_wp2_with (first | (go_at_call 6; go_in) | (go_at_call 12; go_in))
      refine Calls.mono HM' ?_
      rintro e w1 ⟨rfl, hb1⟩
      have S1 : Hid _ := (Wc_st hN w.heap.size nn len ff (P + ex - start) start ver wt (start + ro) (start + no)).below hb1
      go_wp2_with fail
      refine Calls.mono (HT' _ (S1.out.alloc _) ((Pm.below (Pm.below PM hb1 (by rw [Wc_size hN]; show w.heap.size < N + 10; omega)) ((Below.refl _ _).alloc (Nat.le_refl _) _) (Nat.lt_of_lt_of_le (by rw [Wc_size hN]; show w.heap.size < N + 10; omega) hb1.size)))) ?_
      rintro e w2 ⟨rfl, hs2, hk2⟩
      have e1 : N + 10 ≤ w1.heap.size := by have := hb1.size; rw [Wc_size hN] at this; exact this
      obtain ⟨X, hX⟩ : ∃ X, w1.heap.size = X := ⟨_, rfl⟩
      have hwant : w2.heap[X]? = some (.cells #[.bool res, .int .i64 fr', .int .i64 nw', .int .i64 wt', .int .i64 m] 68 (0, 0)) :=
        (hk2.block X (by simp; omega) (by simp [qc]; omega) (by simp [qc]; omega) (by simp [qc]; omega)).trans (push_at hX.symm)
      have d0 : w2.cell? ⟨X, 0, none⟩ = some (.bool res) := cell_of hwant 0
      have d1 : w2.cell? ⟨X, 1, none⟩ = some (.int .i64 fr') := cell_of hwant 1
      have d2 : w2.cell? ⟨X, 2, none⟩ = some (.int .i64 nw') := cell_of hwant 2
      have d3 : w2.cell? ⟨X, 3, none⟩ = some (.int .i64 wt') := cell_of hwant 3
      have k3 : w2.cell? ⟨N + 1 + 1 + 1 + 1, 3, none⟩ = some (.pointer (some ⟨N + 1 + 1 + 1 + 1 + 1 + 1 + 1 + 1 + 1, 0, none⟩)) := hs2.cells.1
      have k4 : w2.cell? ⟨N + 1 + 1 + 1 + 1, 4, none⟩ = some (.pointer (some ⟨N + 1 + 1 + 1, 0, none⟩)) := hs2.cells.2.1
      have k5 : w2.cell? ⟨N + 1 + 1 + 1 + 1, 5, none⟩ = some (.pointer (some ⟨N + 1, 0, none⟩)) := hs2.cells.2.2.1
      have k6 : w2.cell? ⟨N + 1 + 1 + 1 + 1, 6, none⟩ = some (.int .i64 fr') := hs2.cells.2.2.2.1
      have k7 : w2.cell? ⟨N + 1 + 1 + 1 + 1, 7, none⟩ = some (.int .i64 nw') := hs2.cells.2.2.2.2.1
      have k10 : w2.cell? ⟨N + 1 + 1 + 1, 10, none⟩ = some (.int .i64 wt') := hs2.cells.2.2.2.2.2.2.1
      have k11 : w2.cell? ⟨N + 1 + 1 + 1, 11, none⟩ = some (.int .i64 (start + ro)) := hs2.cells.2.2.2.2.2.2.2.1
      have k0 : w2.cell? ⟨N + 1 + 1, 0, none⟩ = some (.int .i64 (m * 1)) := hs2.cells.2.2.2.2.2.2.2.2.1
      rw [Int.mul_one] at k0
      have BB : Below w.heap.size w w2 := ((((hbel.trans ((Wc_below hN w.heap.size nn len ff (P + ex - start) start ver wt (start + ro) (start + no)).mono (by omega))).trans (hb1.mono (by rw [Wc_size hN]; omega))).alloc (by omega) _)).trans (hk2.below (by simp [qc]; omega) (by simp [qc]; omega) (by simp [qc]; omega) (by simp; omega))
      have d4 : w2.cell? ⟨X, 4, none⟩ = some (.int .i64 m) := cell_of hwant 4
      obtain ⟨_, _, _, _, b5, b6, b7, b8⟩ := Wc_blocks hN w.heap.size nn len ff (P + ex - start) start ver wt (start + ro) (start + no)
      have up : ∀ {j : Nat} {o : Obj}, j < N + 10 → j ≠ N + 1 + 1 + 1 + 1 → j ≠ N + 1 + 1 + 1 → j ≠ N + 1 + 1 → (Wc wr N w.heap.size nn len ff (P + ex - start) start ver wt (start + ro) (start + no)).heap[j]? = some o → w2.heap[j]? = some o := fun h1 h2 h3 h4 h5 =>
        (hk2.block _ (by simp; omega) h2 h3 h4).trans ((Below.heap_alloc w1 _ _ (by omega)).trans ((hb1.block _ (by rw [Wc_size hN]; omega)).trans h5))
      have e5 := up (by omega) (by omega) (by omega) (by omega) b5
      have e6 := up (by omega) (by omega) (by omega) (by omega) b6
      have e7 := up (by omega) (by omega) (by omega) (by omega) b7
      have e8 := up (by omega) (by omega) (by omega) (by omega) b8
      have l4 : w2.cell? ⟨N + 1 + 1 + 1 + 1 + 1, 4, none⟩ = some (.int .i64 0) := cell_of e5 4
      have a3 : w2.cell? ⟨N + 1 + 1 + 1 + 1 + 1 + 1 + 1 + 1 + 1, 3, none⟩ = some (.pointer (some ⟨N + 1 + 1 + 1 + 1 + 1, 0, none⟩)) := cell_of e8 3
      have a4 : w2.cell? ⟨N + 1 + 1 + 1 + 1 + 1 + 1 + 1 + 1 + 1, 4, none⟩ = some (.map (some (N + 1 + 1 + 1 + 1 + 1 + 1))) := cell_of e8 4
      have a6 : w2.cell? ⟨N + 1 + 1 + 1 + 1 + 1 + 1 + 1 + 1 + 1, 6, none⟩ = some (.map (some (N + 1 + 1 + 1 + 1 + 1 + 1 + 1 + 1))) := cell_of e8 6
      clear b5 b6 b7 b8 e5 e8 up
      clear hs2 hk2 hb1 S1 HT' HM' PM hwant hmk hmi HN
      go_wp2
      go_quiet (fail)
      have q1 := neq42
      have q2 := neq28
      have q3 := neq55
      have q4 := fun n => len62 (w2.drewN n) _ e7
      have q5 := fun n => len61 (w2.drewN n) _ e6
      clear e6 e7
      go_wp2
      go_ret
      exact ⟨rfl, below_drewN BB _⟩

end Go.Proofs.Ybulkbiwm.Th
