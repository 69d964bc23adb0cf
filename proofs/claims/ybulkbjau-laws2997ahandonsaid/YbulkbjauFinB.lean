import Derived.Test.YbulkbjauFin
/-! Keyed.finish, no task held. -/
namespace Go.Proofs.Ybulkbjau
open Go.RowKit Go.MuLone
set_option linter.unusedVariables false
attribute [local go_sem ↓] Go.wp_at_zero Go.wp_at_succ

set_option maxRecDepth 100000 in
set_option maxHeartbeats 2000000 in
theorem fin_drop (kb pb mb m t : Nat) (f : Nat → Option Value) (rB : Value) (nB held : Int) (w : World) (ht : t ≤ 2000) (hm : m ≤ 1024)
    (hK : w.heap[kb]? = some (.cells #[.pointer (some ⟨pb, 0, none⟩), .map (some mb), .int .i64 m] 52 (0, 0))) (hP : w.heap[pb]? = some (.cells (PA 0 rB 0 nB held) 45 (0, 0))) (hM : MapIs mb m f w)
    (hft : (f t).getD q0 = q0) :
    Calls Yba.prog 9 #[.pointer (some ⟨kb, 0, none⟩), .int .i64 t] w fun e w' => e = .returned (.tuple #[]) ∧ MapIs mb (if (f t).isSome then m - 1 else m) (upd f t none) w' ∧
      w'.heap[pb]? = some (.cells (PA 0 rB 0 nB held) 45 (0, 0)) ∧ Fr (fun k => k = pb ∨ k = mb) w w' := by
  have lP := lt_of_block hP
  have lK := lt_of_block hK
  have nKP : kb ≠ pb := ne_ty hK hP (by decide)
  have nKM : kb ≠ mb := ne_map hK hM
  have nPM : pb ≠ mb := ne_map hP hM
  have p4 : w.cell? ⟨pb, 4, none⟩ = some (.int .i32 0) := cell_of hP 4
  have z4 := free_of hP 4
  have k0 : w.cell? ⟨kb, 0, none⟩ = some (.pointer (some ⟨pb, 0, none⟩)) := cell_of hK 0
  have LOCK := hid (lock_free muLib ⟨pb, 4, none⟩ w p4 z4)
  obtain ⟨W1, hW1⟩ : ∃ W, w.setCell ⟨pb, 4, none⟩ (.int .i32 1) = W := ⟨_, rfl⟩
  rw [hW1] at LOCK
  have hP1 : W1.heap[pb]? = some (.cells (PA 1 rB 0 nB held) 45 (0, 0)) := by rw [← hW1]; exact heap_setCell_same w pb 4 _ _ _ hP
  have F1 : Fr (fun k => k = pb) w W1 := hW1 ▸ (Fr.refl (fun k => k = pb) w).setCell (p := ⟨pb, 4, none⟩) (.inl rfl) _
  have hK1 : W1.heap[kb]? = some (.cells #[.pointer (some ⟨pb, 0, none⟩), .map (some mb), .int .i64 m] 52 (0, 0)) := (F1.block kb lK nKP).trans hK
  have hM1 : MapIs mb m f W1 := hM.keep F1 (fun e => nPM e.symm)
  have k1 : W1.cell? ⟨kb, 1, none⟩ = some (.map (some mb)) := cell_of hK1 1
  have LK := hM1.look t ht
  rw [hft] at LK
  simp only [q0] at LK
  have s1 : W1.heap.size = w.heap.size := by rw [← hW1]; simp
  obtain ⟨W2, hW2⟩ : ∃ W, W1.alloc (.cells #[.slice none 0 0, .int .i64 0, .int .i64 0] 39) = W := ⟨_, rfl⟩
  have hN2 : W2.heap[w.heap.size]? = some (.cells (qput #[.slice none 0 0, .int .i64 0, .int .i64 0] 0 (.slice none 0 0) 0 0) 39 (0, 0)) := by rw [← hW2, ← s1]; exact Go.heap_alloc_new _ _
  have A2 : Fr (fun _ => False) W1 W2 := hW2 ▸ (Fr.refl _ W1).alloc _
  have POP := hid (pop_empty #[.slice none 0 0, .int .i64 0, .int .i64 0] 39 w.heap.size 0 (.slice none 0 0) 0 (by simp) W2 hN2)
  have hP2 := (A2.block pb (by omega) (fun h => h)).trans hP1
  have hK2 := (A2.block kb (by omega) (fun h => h)).trans hK1
  have hM2 := hM1.keep A2 (fun h => h)
  have s2 : W2.heap.size = w.heap.size + 1 := by rw [← hW2]; simp [s1]
  have k12 : W2.cell? ⟨kb, 1, none⟩ = some (.map (some mb)) := cell_of hK2 1
  obtain ⟨w3, hdel, hM3, hT3⟩ := hM2.drop t ht 0
  have F3 := fr_turned hT3
  have hK3 := (F3.block kb (by omega) nKM).trans hK2
  have hP3 := (F3.block pb (by omega) nPM).trans hP2
  have k13 : w3.cell? ⟨kb, 1, none⟩ = some (.map (some mb)) := cell_of hK3 1
  have k23 : w3.cell? ⟨kb, 2, none⟩ = some (.int .i64 m) := cell_of hK3 2
  obtain ⟨m', hm'⟩ : ∃ m', (if (f t).isSome then m - 1 else m) = m' := ⟨_, rfl⟩
  rw [hm'] at hM3 ⊢
  have hm2 : m - 1 ≤ m' ∧ m' ≤ m := by rw [← hm']; split <;> omega
  have hlen := hM3.len 3
  have c43 : w3.cell? ⟨pb, 4, none⟩ = some (.int .i32 1) := cell_of hP3 4
  have z43 := free_of hP3 4
  obtain ⟨W4, hW4⟩ : ∃ W, w3.setCell ⟨pb, 4, none⟩ (.int .i32 0) = W := ⟨_, rfl⟩
  have hP4 : W4.heap[pb]? = some (.cells (PA 0 rB 0 nB held) 45 (0, 0)) := by rw [← hW4]; exact heap_setCell_same w3 pb 4 _ _ _ hP3
  have FSW : Fr (fun k => k = pb) w3 W4 := hW4 ▸ (Fr.refl (fun k => k = pb) w3).setCell (p := ⟨pb, 4, none⟩) (.inl rfl) _
  have hM4 := hM3.keep FSW (fun e => nPM e.symm)
  have FIN : Fr (fun k => k = pb ∨ k = mb) w W4 := (((F1.mono (fun k _ h => .inl h)).trans (A2.mono (fun k _ h => h.elim))).trans (F3.mono (fun k _ h => .inr h))).trans (FSW.mono (fun k _ h => .inl h))
  have ALL := hid (And.intro hM4 (And.intro hP4 FIN))
  clear p4 z4 A2 hN2 hP1 hK1 hM1 hft hP hK hM F1 hP2 hK2 hM2 hT3 F3 hK3 hP3 hM3 hP4 FSW hM4 FIN
  subst hW2
  by_cases hbig : m = 1024
  · have g1 : decide ((1024 : Int) ≤ (m : Int)) = true := by simp; omega
    have g2 : decide ((m' : Int) ≤ 256) = false := by simp; omega
    subst hbig
    go_enter_defers Yba.func9, Yba.ntmps9
    go_wp2_with (first | (go_at_call 20; refine LOCK.out.mono ?_; rintro e w' ⟨rfl, rfl⟩) | (go_at_call 12; refine POP.out.mono ?_; rintro e w' ⟨rfl, rfl⟩))
    refine leaves_cons (f := 11) (args := #[.pointer (some ⟨pb, 4, none⟩)]) (by simp) (by simp [go_sem]) ?_
    refine (unlock_deferred muLib ⟨pb, 4, none⟩ _ _ c43 z43).mono ?_
    rintro e1 u1 w8 ⟨rfl, rfl, rfl⟩
    rw [hW4]
    simp [Leaves, settle, results, Yba.results9]
    exact ALL.out
  · have g1 : decide ((1024 : Int) ≤ (m : Int)) = false := by simp; omega
    go_enter_defers Yba.func9, Yba.ntmps9
    go_wp2_with (first | (go_at_call 20; refine LOCK.out.mono ?_; rintro e w' ⟨rfl, rfl⟩) | (go_at_call 12; refine POP.out.mono ?_; rintro e w' ⟨rfl, rfl⟩))
    refine leaves_cons (f := 11) (args := #[.pointer (some ⟨pb, 4, none⟩)]) (by simp) (by simp [go_sem]) ?_
    refine (unlock_deferred muLib ⟨pb, 4, none⟩ _ _ c43 z43).mono ?_
    rintro e1 u1 w8 ⟨rfl, rfl, rfl⟩
    rw [hW4]
    simp [Leaves, settle, results, Yba.results9]
    exact ALL.out
end Go.Proofs.Ybulkbjau
