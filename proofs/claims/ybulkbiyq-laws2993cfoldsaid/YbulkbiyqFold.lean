import Derived.Test.YbulkbiyqStep
/-! LawS2993CFold (function 4). -/
namespace Go.Proofs.Ybulkbiyq
open Go.RowKit
set_option linter.unusedVariables false
attribute [local go_sem ↓] Go.wp_at_zero Go.wp_at_succ

theorem nx_zero (w : World) (a b c : Value) : Nx w.heap.size 0 (w.alloc (.cells #[a, b, .int .u64 0, .int .i64 0, .pointer none, c] 37)) :=
  ⟨_, by show (w.heap.push _)[w.heap.size]? = _; simp; rfl, rfl, rfl, rfl⟩
theorem isZero_n (n : Int) (l : Value) (w : World) (h : n = 0) : Calls Yba.prog 8 #[.agg #[.int .u64 (n % 1000000000), .int .i64 (n / 1000000000), l]] w fun e w' => e = .returned (.bool true) ∧ w.alloc (.cells #[.int .u64 (n % 1000000000), .int .i64 (n / 1000000000), l] 26) = w' := by
  subst h
  exact isZero_yes l w
theorem idx_at {a1 : Option Addr} {ad : Addr} {len cap k : Nat} (ha : a1 = some ad) (hk : k < len) (w : World) : (Instr.indexAt 40 (.slice a1 len cap) (.int .i64 k)).run Yba.prog w = .ok (.pointer (some (ad.add k))) w := by
  subst ha
  have h1 : (0 : Int) ≤ (k : Int) ∧ (k : Int) < (len : Int) := by omega
  simp [Instr.indexAt, asIntOf, run_underlying Yba.underlying40, h1]
  intro h
  omega

set_option maxRecDepth 100000 in
set_option maxHeartbeats 4000000 in
theorem fold_some (a1 : Option Addr) (len cap : Nat) (z : Nat → Int) (w : World) (hlen : len ≤ 1024) (hz : ∀ k, -9223372036854775808 ≤ z k ∧ z k ≤ 9223372036854775807)
    (hsrc : ∀ k, k < len → ∃ ad, a1 = some ad ∧ w.cell? (ad.add k) = some (.int .i64 (z k))) :
    Calls Yba.prog 4 #[.slice a1 len cap] w fun e w' => e = .returned (.bool true) ∧ Below w.heap.size w w' := by
  have HZ := hid hz
  have HSRC := hid hsrc
  clear hz hsrc
  obtain ⟨E, hE⟩ : ∃ E, w.heap.size = E := ⟨_, rfl⟩
  have NZ := hid (nx_zero w (.int .i32 0) (.int .u32 0) (.chan none))
  have BZ := hid ((Below.refl w.heap.size w).alloc (Nat.le_refl _) (.cells #[.int .i32 0, .int .u32 0, .int .u64 0, .int .i64 0, .pointer none, .chan none] 37))
  have hEE := hid hE
  rw [hE] at NZ BZ
  rw [hE]
  go_enter Yba.func4, Yba.ntmps4
  go_wp2
  go_loopw [4, 5] (fun l i wr => ∃ (k : Nat) (n : Int), k ≤ len ∧ i = .int .i64 k ∧ l = .int .i64 n ∧ -9223372036854775808 ≤ n ∧ n ≤ 9223372036854775807 ∧ Nx E n wr ∧ Below E w wr) (fun _ i _ => len - (intOf i).toNat)
  case atStart => exact ⟨0, 0, Nat.zero_le _, rfl, rfl, by omega, by omega, NZ.out, BZ.out⟩
  case round =>
    obtain ⟨k, n, hk, rfl, rfl, n1, n2, hn, hbel⟩ := hrel
    have hle : E ≤ wr.heap.size := Nat.le_of_lt hn.lt
    have hlt' : E < wr.heap.size := hn.lt
    have HN := hid hn
    have AN := hid (fun (w : World) => at_any n w n1 n2)
    clear hn NZ BZ
    by_cases hlt : k < len
    · obtain ⟨ad, ha, hc⟩ := HSRC.out k hlt
      obtain ⟨a, hza⟩ : ∃ a, z k = a := ⟨_, rfl⟩
      have za := HZ.out k
      rw [hza] at hc za
      have hix : (Instr.indexAt 40 (.slice a1 len cap) (.int .i64 k)).run Yba.prog wr = .ok (.pointer (some (ad.add k))) wr := idx_at ha hlt wr
      have hc' : wr.cell? (ad.add k) = some (.int .i64 a) := by rw [hbel.cell (by rw [← hEE.out]; exact World.block_lt_of_cell? _ _ hc)]; exact hc
      have AA := hid (fun (w : World) => at_any a w za.1 za.2)
      clear ha hc hza hE
      by_cases h : a = 0
      · have HH : ((false = true ∧ a ≠ 0 ∧ (n = 0 ∨ a < n) ∧ n = a) ∨ (false = false ∧ (a = 0 ∨ (n ≠ 0 ∧ ¬ a < n)) ∧ n = n)) := .inr ⟨rfl, .inl h, rfl⟩
        have SET := hid (fun (w : World) (hx : Nx E n w) => set_any E a n w hx false n HH)
        have EQ := hid (fun (l l' : Value) (w : World) => equal_same (n % 1000000000) (n / 1000000000) l l' w (by omega) (by omega))
        clear HH
        have t1 : (a != 0) = false := by simpa using h
        clear h
        go_wp2_with fail
        refine Calls.mono (AA.out _) ?_
        rintro e w1 ⟨rfl, hb1⟩
        have N1 := hid (HN.out.below hb1)
        go_wp2_with fail
        refine Calls.mono (SET.out _ N1.out) ?_
        rintro e w3 ⟨rfl, hn3, hk3⟩
        have N3 := hid hn3
        obtain ⟨c2, c3, c4⟩ := hn3.cells
        have L2 : Below E w w3 := (hbel.trans (hb1.mono hle)).trans (hk3.below (Nat.le_refl _) (Nat.le_trans hle hb1.size))
        have L3 : E < w3.heap.size := Nat.lt_of_lt_of_le (Nat.lt_of_lt_of_le hlt' hb1.size) hk3.size
        clear hn3 hk3 hix hc'
        go_wp2
        go_region_held3 (fun w' => w'.cell? ⟨E, 2, none⟩ = some (.int .u64 (n % 1000000000)) ∧ w'.cell? ⟨E, 3, none⟩ = some (.int .i64 (n / 1000000000)) ∧ w'.cell? ⟨E, 4, none⟩ = some (.pointer none)) (first | go_keep | exact ⟨y2, y3, y4⟩)
          (first
          | (go_at_call 5; refine Calls.mono (AN.out _) ?_; rintro e w4 ⟨rfl, hb4⟩; have N4 := hid (Nx.below (w := w3.drew) N3.out hb4); obtain ⟨y2, y3, y4⟩ := N4.out.cells)
          | (go_at_call 7; refine Calls.mono (EQ.out _ _ _) ?_; rintro e w5 ⟨rfl, rfl⟩))
        have L4 : Below w4.heap.size w4 ((w4.alloc (.cells #[.int .u64 (n % 1000000000), .int .i64 (n / 1000000000), .pointer none] 26)).alloc (.cells #[.int .u64 (n % 1000000000), .int .i64 (n / 1000000000), .pointer none] 26)) := ((Below.refl _ _).alloc (Nat.le_refl _) _).alloc (by simp) _
        have L5 : E ≤ w4.heap.size := Nat.le_trans (Nat.le_of_lt L3) hb4.size
        go_wp2
        go_roundw
        case rel => exact ⟨k + 1, n, by omega, by go_num, rfl, n1, n2, N4.out.below L4, (L2.drew.trans (hb4.mono (Nat.le_of_lt L3))).trans (L4.mono L5)⟩
        case measure => simp [intOf]; omega
      · by_cases h' : n = 0
        · have HH : ((true = true ∧ a ≠ 0 ∧ (n = 0 ∨ a < n) ∧ a = a) ∨ (true = false ∧ (a = 0 ∨ (n ≠ 0 ∧ ¬ a < n)) ∧ a = n)) := .inl ⟨rfl, h, .inl h', rfl⟩
          have SET := hid (fun (w : World) (hx : Nx E n w) => set_any E a n w hx true a HH)
          have EQ := hid (fun (l l' : Value) (w : World) => equal_same (a % 1000000000) (a / 1000000000) l l' w (by omega) (by omega))
          clear HH
          have t1 : (a != 0) = true := by simpa using h
          have t2 : (n == 0) = true := by simpa using h'
          clear h h'
          go_wp2_with fail
          refine Calls.mono (AA.out _) ?_
          rintro e w1 ⟨rfl, hb1⟩
          have N1 := hid (HN.out.below hb1)
          go_wp2_with fail
          refine Calls.mono (SET.out _ N1.out) ?_
          rintro e w3 ⟨rfl, hn3, hk3⟩
          have N3 := hid hn3
          obtain ⟨c2, c3, c4⟩ := hn3.cells
          have L2 : Below E w w3 := (hbel.trans (hb1.mono hle)).trans (hk3.below (Nat.le_refl _) (Nat.le_trans hle hb1.size))
          have L3 : E < w3.heap.size := Nat.lt_of_lt_of_le (Nat.lt_of_lt_of_le hlt' hb1.size) hk3.size
          clear hn3 hk3 hix hc'
          go_wp2
          go_region_held3 (fun w' => w'.cell? ⟨E, 2, none⟩ = some (.int .u64 (a % 1000000000)) ∧ w'.cell? ⟨E, 3, none⟩ = some (.int .i64 (a / 1000000000)) ∧ w'.cell? ⟨E, 4, none⟩ = some (.pointer none)) (first | go_keep | exact ⟨y2, y3, y4⟩)
            (first
            | (go_at_call 5; refine Calls.mono (AA.out _) ?_; rintro e w4 ⟨rfl, hb4⟩; have N4 := hid (Nx.below (w := w3.drew) N3.out hb4); obtain ⟨y2, y3, y4⟩ := N4.out.cells)
            | (go_at_call 7; refine Calls.mono (EQ.out _ _ _) ?_; rintro e w5 ⟨rfl, rfl⟩))
          have L4 : Below w4.heap.size w4 ((w4.alloc (.cells #[.int .u64 (a % 1000000000), .int .i64 (a / 1000000000), .pointer none] 26)).alloc (.cells #[.int .u64 (a % 1000000000), .int .i64 (a / 1000000000), .pointer none] 26)) := ((Below.refl _ _).alloc (Nat.le_refl _) _).alloc (by simp) _
          have L5 : E ≤ w4.heap.size := Nat.le_trans (Nat.le_of_lt L3) hb4.size
          go_wp2
          go_roundw
          case rel => exact ⟨k + 1, a, by omega, by go_num, rfl, za.1, za.2, N4.out.below L4, (L2.drew.trans (hb4.mono (Nat.le_of_lt L3))).trans (L4.mono L5)⟩
          case measure => simp [intOf]; omega
        · by_cases hs : a < n
          · have HH : ((true = true ∧ a ≠ 0 ∧ (n = 0 ∨ a < n) ∧ a = a) ∨ (true = false ∧ (a = 0 ∨ (n ≠ 0 ∧ ¬ a < n)) ∧ a = n)) := .inl ⟨rfl, h, .inr hs, rfl⟩
            have SET := hid (fun (w : World) (hx : Nx E n w) => set_any E a n w hx true a HH)
            have EQ := hid (fun (l l' : Value) (w : World) => equal_same (a % 1000000000) (a / 1000000000) l l' w (by omega) (by omega))
            clear HH
            have t1 : (a != 0) = true := by simpa using h
            have t2 : (n == 0) = false := by simpa using h'
            clear h h'
            go_wp2_with fail
            refine Calls.mono (AA.out _) ?_
            rintro e w1 ⟨rfl, hb1⟩
            have N1 := hid (HN.out.below hb1)
            go_wp2_with fail
            refine Calls.mono (SET.out _ N1.out) ?_
            rintro e w3 ⟨rfl, hn3, hk3⟩
            have N3 := hid hn3
            obtain ⟨c2, c3, c4⟩ := hn3.cells
            have L2 : Below E w w3 := (hbel.trans (hb1.mono hle)).trans (hk3.below (Nat.le_refl _) (Nat.le_trans hle hb1.size))
            have L3 : E < w3.heap.size := Nat.lt_of_lt_of_le (Nat.lt_of_lt_of_le hlt' hb1.size) hk3.size
            clear hn3 hk3 hix hc'
            go_wp2
            go_region_held3 (fun w' => w'.cell? ⟨E, 2, none⟩ = some (.int .u64 (a % 1000000000)) ∧ w'.cell? ⟨E, 3, none⟩ = some (.int .i64 (a / 1000000000)) ∧ w'.cell? ⟨E, 4, none⟩ = some (.pointer none)) (first | go_keep | exact ⟨y2, y3, y4⟩)
              (first
              | (go_at_call 5; refine Calls.mono (AA.out _) ?_; rintro e w4 ⟨rfl, hb4⟩; have N4 := hid (Nx.below (w := w3.drew) N3.out hb4); obtain ⟨y2, y3, y4⟩ := N4.out.cells)
              | (go_at_call 7; refine Calls.mono (EQ.out _ _ _) ?_; rintro e w5 ⟨rfl, rfl⟩))
            have L4 : Below w4.heap.size w4 ((w4.alloc (.cells #[.int .u64 (a % 1000000000), .int .i64 (a / 1000000000), .pointer none] 26)).alloc (.cells #[.int .u64 (a % 1000000000), .int .i64 (a / 1000000000), .pointer none] 26)) := ((Below.refl _ _).alloc (Nat.le_refl _) _).alloc (by simp) _
            have L5 : E ≤ w4.heap.size := Nat.le_trans (Nat.le_of_lt L3) hb4.size
            go_wp2
            go_roundw
            case rel => exact ⟨k + 1, a, by omega, by go_num, rfl, za.1, za.2, N4.out.below L4, (L2.drew.trans (hb4.mono (Nat.le_of_lt L3))).trans (L4.mono L5)⟩
            case measure => simp [intOf]; omega
          · have HH : ((false = true ∧ a ≠ 0 ∧ (n = 0 ∨ a < n) ∧ n = a) ∨ (false = false ∧ (a = 0 ∨ (n ≠ 0 ∧ ¬ a < n)) ∧ n = n)) := .inr ⟨rfl, .inr ⟨h', hs⟩, rfl⟩
            have SET := hid (fun (w : World) (hx : Nx E n w) => set_any E a n w hx false n HH)
            have EQ := hid (fun (l l' : Value) (w : World) => equal_same (n % 1000000000) (n / 1000000000) l l' w (by omega) (by omega))
            clear HH
            have t1 : (a != 0) = true := by simpa using h
            have t2 : (n == 0) = false := by simpa using h'
            have t3 : decide (a < n) = false := decide_eq_false hs
            clear h h'
            go_wp2_with fail
            refine Calls.mono (AA.out _) ?_
            rintro e w1 ⟨rfl, hb1⟩
            have N1 := hid (HN.out.below hb1)
            go_wp2_with fail
            refine Calls.mono (SET.out _ N1.out) ?_
            rintro e w3 ⟨rfl, hn3, hk3⟩
            have N3 := hid hn3
            obtain ⟨c2, c3, c4⟩ := hn3.cells
            have L2 : Below E w w3 := (hbel.trans (hb1.mono hle)).trans (hk3.below (Nat.le_refl _) (Nat.le_trans hle hb1.size))
            have L3 : E < w3.heap.size := Nat.lt_of_lt_of_le (Nat.lt_of_lt_of_le hlt' hb1.size) hk3.size
            clear hn3 hk3 hix hc'
            go_wp2
            go_region_held3 (fun w' => w'.cell? ⟨E, 2, none⟩ = some (.int .u64 (n % 1000000000)) ∧ w'.cell? ⟨E, 3, none⟩ = some (.int .i64 (n / 1000000000)) ∧ w'.cell? ⟨E, 4, none⟩ = some (.pointer none)) (first | go_keep | exact ⟨y2, y3, y4⟩)
              (first
              | (go_at_call 5; refine Calls.mono (AN.out _) ?_; rintro e w4 ⟨rfl, hb4⟩; have N4 := hid (Nx.below (w := w3.drew) N3.out hb4); obtain ⟨y2, y3, y4⟩ := N4.out.cells)
              | (go_at_call 7; refine Calls.mono (EQ.out _ _ _) ?_; rintro e w5 ⟨rfl, rfl⟩))
            have L4 : Below w4.heap.size w4 ((w4.alloc (.cells #[.int .u64 (n % 1000000000), .int .i64 (n / 1000000000), .pointer none] 26)).alloc (.cells #[.int .u64 (n % 1000000000), .int .i64 (n / 1000000000), .pointer none] 26)) := ((Below.refl _ _).alloc (Nat.le_refl _) _).alloc (by simp) _
            have L5 : E ≤ w4.heap.size := Nat.le_trans (Nat.le_of_lt L3) hb4.size
            go_wp2
            go_roundw
            case rel => exact ⟨k + 1, n, by omega, by go_num, rfl, n1, n2, N4.out.below L4, (L2.drew.trans (hb4.mono (Nat.le_of_lt L3))).trans (L4.mono L5)⟩
            case measure => simp [intOf]; omega
    · have EQ := hid (fun (l l' : Value) (w : World) => equal_same (n % 1000000000) (n / 1000000000) l l' w (by omega) (by omega))
      obtain ⟨c2, c3, c4⟩ := HN.out.cells
      by_cases h : n = 0
      · have ISZ := hid (fun (l : Value) (w : World) => isZero_n n l w h)
        have t1 : (n != 0) = false := by simpa using h
        clear h
        go_wp2
        go_region_held3 (fun w' => w'.cell? ⟨E, 2, none⟩ = some (.int .u64 (n % 1000000000)) ∧ w'.cell? ⟨E, 3, none⟩ = some (.int .i64 (n / 1000000000)) ∧ w'.cell? ⟨E, 4, none⟩ = some (.pointer none)) (first | go_keep | exact ⟨y2, y3, y4⟩)
          (first
          | (go_at_call 5; refine Calls.mono (AN.out _) ?_; rintro e w4 ⟨rfl, hb4⟩; obtain ⟨y2, y3, y4⟩ := (Nx.below (w := wr.drew) HN.out hb4).cells)
          | (go_at_call 7; refine Calls.mono (EQ.out _ _ _) ?_; rintro e w5 ⟨rfl, rfl⟩)
          | (go_at_call 8; refine Calls.mono (ISZ.out _ _) ?_; rintro e w6 ⟨rfl, rfl⟩))
        have L5 : E ≤ w4.heap.size := Nat.le_trans hle hb4.size
        go_wp2
        go_ret
        exact ⟨rfl, (((hbel.drew.trans (hb4.mono hle)).alloc L5 _).alloc (by simp; omega) _).alloc (by simp; omega) _⟩
      · have t1 : (n != 0) = true := by simpa using h
        clear h
        go_wp2
        have hud : undef = Value.tuple #[] := rfl
        first
          | (go_region_with (first
            | (go_at_call 5; refine Calls.mono (AN.out _) ?_; rintro e w4 ⟨rfl, hb4⟩; obtain ⟨y2, y3, y4⟩ := (Nx.below (w := wr.drew) HN.out hb4).cells)
            | (go_at_call 7; refine Calls.mono (EQ.out _ _ _) ?_; rintro e w5 ⟨rfl, rfl⟩)))
          | fail
        clear hud
        all_goals
          have L5 : E ≤ w4.heap.size := Nat.le_trans hle hb4.size
          go_wp2
          go_ret
          exact ⟨rfl, ((hbel.drew.trans (hb4.mono hle)).alloc L5 _).alloc (by simp; omega) _⟩
end Go.Proofs.Ybulkbiyq
