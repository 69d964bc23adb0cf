import Derived.Test.YbulkbjauMap
/-! Keyed.finish. -/
namespace Go.Proofs.Ybulkbjau
open Go.RowKit Go.MuLone
set_option linter.unusedVariables false
attribute [local go_sem ↓] Go.wp_at_zero Go.wp_at_succ

/-- A pool's cells: the lock m, the backlog's ring, head and number, and held. -/
def PA (m : Int) (r : Value) (h n held : Int) : Array Value :=
  #[.int .i64 0, .int .i64 0, .int .i64 0, .nilFunc, .int .i32 m, .int .u32 0, .int .i64 0, .int .i64 0, .pointer none, .pointer none, r, .int .i64 h, .int .i64 n, .int .i64 held, .bool false, .pointer none, .pointer none, .chan none]
theorem PA_qput (m : Int) (r r' : Value) (h h' n n' held : Int) : qput (PA m r h n held) 10 r' h' n' = PA m r' h' n' held := rfl
theorem q_qput (r r' : Value) (h h' n n' : Int) : qput #[r, .int .i64 h, .int .i64 n] 0 r' h' n' = #[r', .int .i64 h', .int .i64 n'] := rfl
theorem ne_ty {w : World} {a b : Nat} {A B : Array Value} {s t : TypeId} {f g : Nat × Nat} (h : w.heap[a]? = some (.cells A s f)) (k : w.heap[b]? = some (.cells B t g)) (hn : s ≠ t) : a ≠ b := by
  intro e
  subst e
  rw [h] at k
  simp at k
  exact hn k.2.1
theorem ne_map {w : World} {a b m : Nat} {A : Array Value} {s : TypeId} {fz : Nat × Nat} {f : Nat → Option Value} (h : w.heap[a]? = some (.cells A s fz)) (k : MapIs b m f w) : a ≠ b := by
  intro e
  subst e
  obtain ⟨D, ⟨es, clock, hh, _⟩, _⟩ := k
  rw [h] at hh
  cases hh
theorem RingOk.ne {r : Value} {h : Nat} {xs : List (Nat × Nat)} {w : World} (k : RingOk r h xs w) {b : Nat} {A : Array Value} {t : TypeId} {fz : Nat × Nat} (hb : w.heap[b]? = some (.cells A t fz)) (ht : t ≠ 1) : r.ownBlock ≠ some b := by
  rcases k with ⟨rfl, _⟩ | ⟨rb, L, R, rfl, hL, hB, h1, h2, h3⟩
  · simp [Value.ownBlock]
  · intro e
    simp [Value.ownBlock] at e
    exact ne_ty hb hB ht e.symm
theorem RingOk.neMap {r : Value} {h : Nat} {xs : List (Nat × Nat)} {w : World} (k : RingOk r h xs w) {b m : Nat} {f : Nat → Option Value} (hb : MapIs b m f w) : r.ownBlock ≠ some b := by
  rcases k with ⟨rfl, _⟩ | ⟨rb, L, R, rfl, hL, hB, h1, h2, h3⟩
  · simp [Value.ownBlock]
  · intro e
    simp [Value.ownBlock] at e
    exact ne_map hB hb e

set_option maxRecDepth 100000 in
set_option maxHeartbeats 2000000 in
theorem fin_hand (kb pb mb m t : Nat) (f : Nat → Option Value) (r rB : Value) (p : Nat × Nat) (xs ys : List (Nat × Nat)) (held : Int) (w : World) (ht : t ≤ 2000) (hm : m ≤ 1500)
    (hK : w.heap[kb]? = some (.cells #[.pointer (some ⟨pb, 0, none⟩), .map (some mb), .int .i64 m] 52 (0, 0))) (hP : w.heap[pb]? = some (.cells (PA 0 rB 0 ys.length held) 45 (0, 0))) (hM : MapIs mb m f w)
    (hft : f t = some (.agg #[r, .int .i64 0, .int .i64 (xs.length + 1)])) (hr : RingOk r 0 (p :: xs) w) (hB : RingOk rB 0 ys w) (hys : ys.length < 31) (hrB : ∀ b, r.ownBlock = some b → rB.ownBlock ≠ some b) :
    Calls Yba.prog 9 #[.pointer (some ⟨kb, 0, none⟩), .int .i64 t] w fun e w' => e = .returned (.tuple #[]) ∧ ∃ r' h' rB', MapIs mb m (upd f t (some (.agg #[r', .int .i64 (h' : Nat), .int .i64 xs.length]))) w' ∧
      RingOk r' h' xs w' ∧ w'.heap[pb]? = some (.cells (PA 0 rB' 0 (ys.length + 1) (wrap64 (held - 1))) 45 (0, 0)) ∧ RingOk rB' 0 (ys ++ [p]) w' ∧ (∀ b, r'.ownBlock = some b → rB'.ownBlock ≠ some b) ∧
      Fr (fun k => k = pb ∨ k = mb ∨ r.ownBlock = some k ∨ rB.ownBlock = some k) w w' ∧
      ∀ lo, lo ≤ w.heap.size → (∀ b, r.ownBlock = some b → lo ≤ b) → (∀ b, rB.ownBlock = some b → lo ≤ b) → (∀ b, r'.ownBlock = some b → lo ≤ b) ∧ ∀ b, rB'.ownBlock = some b → lo ≤ b := by
  obtain ⟨rb, L, rfl⟩ : ∃ rb L, r = .slice (some ⟨rb, 0, none⟩) L L := by
    rcases hr with ⟨_, _, e⟩ | ⟨rb, L, _, e, _⟩
    · cases e
    · exact ⟨rb, L, e⟩
  have lP := lt_of_block hP
  have lK := lt_of_block hK
  have nKP : kb ≠ pb := ne_ty hK hP (by decide)
  have nKM : kb ≠ mb := ne_map hK hM
  have nPM : pb ≠ mb := ne_map hP hM
  have p4 : w.cell? ⟨pb, 4, none⟩ = some (.int .i32 0) := cell_of hP 4
  have z4 := free_of hP 4
  have k0 : w.cell? ⟨kb, 0, none⟩ = some (.pointer (some ⟨pb, 0, none⟩)) := cell_of hK 0
  -- behind the lock
  have LOCK := hid (lock_free muLib ⟨pb, 4, none⟩ w p4 z4)
  obtain ⟨W1, hW1⟩ : ∃ W, w.setCell ⟨pb, 4, none⟩ (.int .i32 1) = W := ⟨_, rfl⟩
  rw [hW1] at LOCK
  have hP1 : W1.heap[pb]? = some (.cells (PA 1 rB 0 ys.length held) 45 (0, 0)) := by rw [← hW1]; exact heap_setCell_same w pb 4 _ _ _ hP
  have F1 : Fr (fun k => k = pb) w W1 := hW1 ▸ (Fr.refl (fun k => k = pb) w).setCell (p := ⟨pb, 4, none⟩) (.inl rfl) _
  have hK1 : W1.heap[kb]? = some (.cells #[.pointer (some ⟨pb, 0, none⟩), .map (some mb), .int .i64 m] 52 (0, 0)) := (F1.block kb lK nKP).trans hK
  have hM1 : MapIs mb m f W1 := hM.keep F1 (fun e => nPM e.symm)
  have hr1 : RingOk (.slice (some ⟨rb, 0, none⟩) L L) 0 (p :: xs) W1 := hr.keep F1 (fun b hb e => hr.ne hP (by decide) (e ▸ hb))
  have hB1 : RingOk rB 0 ys W1 := hB.keep F1 (fun b hb e => hB.ne hP (by decide) (e ▸ hb))
  have k1 : W1.cell? ⟨kb, 1, none⟩ = some (.map (some mb)) := cell_of hK1 1
  have LK := hM1.look t ht
  rw [hft] at LK
  simp only [Option.getD] at LK
  -- behind held := k.keys[key]
  have s1 : W1.heap.size = w.heap.size := by rw [← hW1]; simp
  obtain ⟨W2, hW2⟩ : ∃ W, W1.alloc (.cells #[.slice (some ⟨rb, 0, none⟩) L L, .int .i64 0, .int .i64 (xs.length + 1)] 39) = W := ⟨_, rfl⟩
  have hN2 : W2.heap[w.heap.size]? = some (.cells (qput #[.slice (some ⟨rb, 0, none⟩) L L, .int .i64 0, .int .i64 (xs.length + 1)] 0 (.slice (some ⟨rb, 0, none⟩) L L) ((0 : Nat) : Int) (xs.length + 1)) 39 (0, 0)) := by rw [← hW2, ← s1]; exact Go.heap_alloc_new _ _
  have F2 : Fr (fun k => k = pb) w W2 := hW2 ▸ F1.alloc _
  have A2 : Fr (fun _ => False) W1 W2 := hW2 ▸ (Fr.refl _ W1).alloc _
  have hr2 := hr1.keep A2 (fun _ _ h => h)
  have POP := hid (pop_any #[.slice (some ⟨rb, 0, none⟩) L L, .int .i64 0, .int .i64 (xs.length + 1)] 39 w.heap.size 0 (.slice (some ⟨rb, 0, none⟩) L L) 0 xs p (by simp) W2 hN2 hr2 (hr2.ne hN2 (by decide)))
  have hP2 := (A2.block pb (by omega) (fun h => h)).trans hP1
  have hK2 := (A2.block kb (by omega) (fun h => h)).trans hK1
  have hM2 := hM1.keep A2 (fun h => h)
  have hB2 := hB1.keep A2 (fun _ _ h => h)
  have hrlt := hr.lt
  have hBlt := hB.lt
  have s2 : W2.heap.size = w.heap.size + 1 := by rw [← hW2]; simp [s1]
  have hFT := hid hft
  have RP := hid (hr.ne hP (by decide))
  have RK := hid (hr.ne hK (by decide))
  have RM := hid (hr.neMap hM)
  have MN : Hid (mb ≠ w.heap.size) := by intro e; have := hM.lt; omega
  have BN := hid hB.lt
  clear p4 z4 hr1 A2 hN2 hP1 hK1 hM1 hB1 hr2 hft hP hK hM hr hB F1
  have P2 := hid hP2
  have K2 := hid hK2
  have M2 := hid hM2
  have B2 := hid hB2
  clear hP2 hK2 hM2 hB2
  go_enter_defers Yba.func9, Yba.ntmps9
  go_wp2_with (first | (go_at_call 20; refine LOCK.out.mono ?_; rintro e w' ⟨rfl, rfl⟩) | fail)
  refine Calls.mono POP.out ?_
  rintro e w3 ⟨rfl, r', h', F3, hr3, hN3, hob⟩
  -- behind the pop
  have nKN : ∀ k, k < w.heap.size → k ≠ w.heap.size := fun k hk => by omega
  have S3 : w.heap.size + 1 ≤ w3.heap.size := by rw [← s2]; exact F3.size
  have far3 : ∀ k, k < w.heap.size → (Value.slice (some ⟨rb, 0, none⟩) L L).ownBlock ≠ some k → w3.heap[k]? = W2.heap[k]? := fun k hk hn => F3.block k (by omega) (by rintro (e | e); omega; exact hn e)
  have hP3 : w3.heap[pb]? = some (.cells (PA 1 rB 0 ys.length held) 45 (0, 0)) := (far3 pb lP (RP.out)).trans P2.out
  have hK3 : w3.heap[kb]? = some (.cells #[.pointer (some ⟨pb, 0, none⟩), .map (some mb), .int .i64 m] 52 (0, 0)) := (far3 kb lK (RK.out)).trans K2.out
  have hM3 : MapIs mb m f w3 := M2.out.keep F3 (by rintro (e | e); exact (MN.out e); exact RM.out e)
  have hB3 : RingOk rB 0 ys w3 := B2.out.keep F3 (by rintro b hb (e | e); exact (Nat.lt_irrefl _ (e ▸ BN.out b hb)); exact hrB b e hb)
  rw [q_qput] at hN3
  have n0 : w3.cell? ⟨w.heap.size, 0, none⟩ = some r' := cell_of hN3 0
  have n1 : w3.cell? ⟨w.heap.size, 1, none⟩ = some (.int .i64 (h' : Nat)) := cell_of hN3 1
  have n2 : w3.cell? ⟨w.heap.size, 2, none⟩ = some (.int .i64 xs.length) := cell_of hN3 2
  have q1 : w3.cell? ⟨kb, 1, none⟩ = some (.map (some mb)) := cell_of hK3 1
  have hM3' : MapIs mb m f w3.drew := hM3
  obtain ⟨w4, hup, hM4, hT4⟩ := hM3'.store hm t ht (.agg #[r', .int .i64 (h' : Nat), .int .i64 xs.length])
  rw [hFT.out] at hM4
  simp only [Option.isSome, if_true] at hM4
  have F4 : Fr (fun k => k = mb) w3.drew w4 := fr_turned hT4
  have lP3 : pb < w3.heap.size := by omega
  have hP4 : w4.heap[pb]? = some (.cells (PA 1 rB 0 ys.length held) 45 (0, 0)) := (F4.block pb lP3 nPM).trans hP3
  have hB4 : RingOk rB 0 ys w4 := hB3.keep (w := w3.drew) F4 (fun b hb e => (hB3.neMap hM3) (e ▸ hb))
  have hr4 : RingOk r' h' xs w4 := hr3.keep (w := w3.drew) F4 (fun b hb e => (hr3.neMap hM3) (e ▸ hb))
  have r13 : w4.cell? ⟨pb, 13, none⟩ = some (.int .i64 held) := cell_of hP4 13
  have z13 := free_of hP4 13
  obtain ⟨W5, hW5⟩ : ∃ W, w4.setCell ⟨pb, 13, none⟩ (.int .i64 (wrap64 (held - 1))) = W := ⟨_, rfl⟩
  have hP5 : W5.heap[pb]? = some (.cells (PA 1 rB 0 ys.length (wrap64 (held - 1))) 45 (0, 0)) := by rw [← hW5]; exact heap_setCell_same w4 pb 13 _ _ _ hP4
  have F5 : Fr (fun k => k = pb) w4 W5 := hW5 ▸ (Fr.refl (fun k => k = pb) w4).setCell (p := ⟨pb, 13, none⟩) (.inl rfl) _
  have hB5 : RingOk rB 0 ys W5 := hB4.keep F5 (fun b hb e => hB4.ne hP4 (by decide) (e ▸ hb))
  have hr5 : RingOk r' h' xs W5 := hr4.keep F5 (fun b hb e => hr4.ne hP4 (by decide) (e ▸ hb))
  have hM5 := hM4.keep F5 (fun e => nPM e.symm)
  have PUSH := hid (push_any (PA 1 rB 0 ys.length (wrap64 (held - 1))) 45 pb 10 rB ys p (by simp [PA]) (by omega) W5 hP5 hB5 (hB5.ne hP5 (by decide)))
  -- the frame so far
  have SEP : Hid (∀ b, r'.ownBlock = some b → rB.ownBlock ≠ some b) := by
    intro b hb hb'
    rcases hob with e | ⟨c, e, hc⟩
    · exact hrB b (e ▸ hb) hb'
    · rw [hb] at e
      cases e
      have := BN.out b hb'
      omega
  have FF : Hid (Fr (fun k => k = pb ∨ k = mb ∨ (Value.slice (some ⟨rb, 0, none⟩) L L).ownBlock = some k ∨ rB.ownBlock = some k) w W5) := by
    have a1 : Fr (fun k => k = pb ∨ k = mb ∨ (Value.slice (some ⟨rb, 0, none⟩) L L).ownBlock = some k ∨ rB.ownBlock = some k) w W2 := F2.mono (fun k _ h => .inl h)
    refine ⟨F5.os.trans (F4.os.trans (F3.os.trans a1.os)), F5.tape.trans (F4.tape.trans (F3.tape.trans a1.tape)), F5.output.trans (F4.output.trans (F3.output.trans a1.output)), Nat.le_trans a1.size (Nat.le_trans F3.size (Nat.le_trans F4.size F5.size)), fun k hk hs => ?_⟩
    have hk3 : k < w3.heap.size := by omega
    have hk4 : k < w4.heap.size := Nat.lt_of_lt_of_le hk3 F4.size
    rw [F5.block k hk4 (fun e => hs (.inl e)), F4.block k hk3 (fun e => hs (.inr (.inl e)))]
    show w3.heap[k]? = _
    rw [F3.block k (by omega) (by rintro (e | e); omega; exact hs (.inr (.inr (.inl e))))]
    exact a1.block k hk hs
  have s6 : w.heap.size + 1 ≤ W5.heap.size := Nat.le_trans S3 (Nat.le_trans F4.size F5.size)
  have RP5 := hid (hr5.ne hP5 (by decide))
  have BM5 := hid (hB5.neMap hM5)
  have R5 := hid hr5
  have M5 := hid hM5
  have P5 := hid hP5
  have O5 := hid hob
  have lr5 := hid hr5.lt
  clear hob far3 hP3 hK3 hM3 hB3 hN3 hM3' hM4 hT4 F4 hP4 hB4 hr4 hP5 F5 hB5 hr5 hM5 F3 hr3 F2 P2 K2 M2 B2 RP RK RM POP LOCK
  simp only [tk]
  go_wp2_with fail
  go_region
  go_wp2_with fail
  refine Calls.mono PUSH.out ?_
  rintro e w6 ⟨rfl, rB', F6, hB6, hP6, hob6⟩
  rw [PA_qput] at hP6
  have l5 : pb < W5.heap.size := by omega
  have c46 : w6.cell? ⟨pb, 4, none⟩ = some (.int .i32 1) := cell_of hP6 4
  have z46 := free_of hP6 4
  obtain ⟨W7, hW7⟩ : ∃ W, w6.setCell ⟨pb, 4, none⟩ (.int .i32 0) = W := ⟨_, rfl⟩
  have hP7 : W7.heap[pb]? = some (.cells (PA 0 rB' 0 (ys.length + 1) (wrap64 (held - 1))) 45 (0, 0)) := by rw [← hW7]; exact heap_setCell_same w6 pb 4 _ _ _ hP6
  have FSW : Fr (fun k => k = pb) w6 W7 := hW7 ▸ (Fr.refl (fun k => k = pb) w6).setCell (p := ⟨pb, 4, none⟩) (.inl rfl) _
  have hM6 := M5.out.keep F6 (by rintro (e | e); exact nPM e.symm; exact BM5.out e)
  have hM7 := hM6.keep FSW (fun e => nPM e.symm)
  have hr6 := R5.out.keep F6 (by rintro b hb (e | e); exact RP5.out (e ▸ hb); exact SEP.out b hb e)
  have hr7 := hr6.keep FSW (fun b hb e => RP5.out (e ▸ hb))
  have hB7 := hB6.keep FSW (fun b hb e => hB6.ne hP6 (by decide) (e ▸ hb))
  have SEP7 : ∀ b, r'.ownBlock = some b → rB'.ownBlock ≠ some b := by
    intro b hb hb'
    rcases hob6 with e | ⟨c, e, hc⟩
    · exact SEP.out b hb (e ▸ hb')
    · rw [hb'] at e
      cases e
      have := lr5.out b hb
      omega
  have FIN : Fr (fun k => k = pb ∨ k = mb ∨ (Value.slice (some ⟨rb, 0, none⟩) L L).ownBlock = some k ∨ rB.ownBlock = some k) w W7 :=
    (FF.out.trans (F6.mono (fun k _ h => h.elim .inl (fun h => .inr (.inr (.inr h)))))).trans (FSW.mono (fun k _ h => .inl h))
  have LOW : ∀ lo, lo ≤ w.heap.size → (∀ b, (Value.slice (some ⟨rb, 0, none⟩) L L).ownBlock = some b → lo ≤ b) → (∀ b, rB.ownBlock = some b → lo ≤ b) → (∀ b, r'.ownBlock = some b → lo ≤ b) ∧ ∀ b, rB'.ownBlock = some b → lo ≤ b := by
    intro lo hlo hr hB
    constructor
    · intro b hb
      rcases O5.out with e | ⟨c, e, hc⟩
      · exact hr b (e ▸ hb)
      · rw [hb] at e
        cases e
        omega
    · intro b hb
      rcases hob6 with e | ⟨c, e, hc⟩
      · exact hB b (e ▸ hb)
      · rw [hb] at e
        cases e
        omega
  have ALL := hid (And.intro hM7 (And.intro hr7 (And.intro hP7 (And.intro hB7 (And.intro SEP7 (And.intro FIN LOW))))))
  clear FSW hM6 hM7 hr6 hr7 hB7 SEP7 FIN LOW hP7 F6 hB6 hP6 hob6 FF R5 M5 P5 O5 lr5 PUSH SEP
  go_wp2
  refine leaves_cons (f := 11) (args := #[.pointer (some ⟨pb, 4, none⟩)]) (by simp) (by simp [go_sem]) ?_
  refine (unlock_deferred muLib ⟨pb, 4, none⟩ _ _ c46 z46).mono ?_
  rintro e1 u1 w8 ⟨rfl, rfl, rfl⟩
  rw [hW7]
  simp [Leaves, settle, results, Yba.results9]
  exact ⟨r', h', ALL.out.1, ALL.out.2.1, rB', ALL.out.2.2⟩
end Go.Proofs.Ybulkbjau
