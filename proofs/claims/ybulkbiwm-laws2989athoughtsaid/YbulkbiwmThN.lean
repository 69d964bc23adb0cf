import Derived.Test.YbulkbiwmThM
/-! LawS2989AThought: zzs2989amodel where the wait ends in this cycle. -/
namespace Go.Proofs.Ybulkbiwm.Th
open Go.RowKit
set_option linter.unusedVariables false

theorem pm_new {b n : Nat} {at' : Nat → Int} {w : World} (hb : b < w.heap.size) (pl : Pm b n at' w) : ∀ (A1 A2 : Array Value) (m : Nat), m < n → ((w.alloc (.cells A1 68)).alloc (.cells A2 68)).cell? ⟨b, m * 2, none⟩ = some (.int .i64 (at' m)) := by
  intro A1 A2 m hm
  rw [World.cell?_alloc_past _ _ _ (by simp; omega), World.cell?_alloc_past _ _ _ hb]
  exact pl m hm

set_option maxRecDepth 100000 in
set_option maxHeartbeats 2000000 in
theorem model_in_b1 (b n ni fr k : Nat) (en nw rd : Int) (w : World) (hn : n ≤ 1024) (hni : ni ≤ n) (h0 : 0 < k) (hk : fr + k ≤ ni) (at' : Nat → Int) (hb : b < w.heap.size) (pl : Pm b n at' w) (nw1 : Int) (hin : fr + k < n) (HNW : Hid (at' (fr + k) = nw1)) (h : rd ≤ nw1) :
    Calls Yba.prog 7 #[.slice (some ⟨b, 0, none⟩) n n, .int .i64 en, .int .i64 ni, .int .i64 fr, .int .i64 nw, .int .i64 (k : Int), .int .i64 rd] w fun e w' => e = .returned (.agg #[.bool true, .int .i64 ((fr + k : Nat) : Int), .int .i64 nw1, .int .i64 0, .int .i64 1]) ∧ Below w.heap.size w w' := by
  have PL : Hid _ := pm_new hb pl
  clear pl
  have hx := fun A1 A2 => PL.out A1 A2 (fr + k) hin
  rw [HNW.out] at hx
  go_enter Yba.func7, Yba.ntmps7
  go_wp2
  refine bodyPost_ret (v := .agg #[.bool true, .int .i64 ((fr : Int) + (k : Int)), .int .i64 nw1, .int .i64 0, .int .i64 1]) (by simp [results, Yba.results7, go_sem]) rfl ⟨ret_agg rfl (by omega) rfl rfl rfl, below2 _ _ _⟩

set_option maxRecDepth 100000 in
set_option maxHeartbeats 2000000 in
theorem model_in_b2 (b n ni fr k : Nat) (en nw rd : Int) (w : World) (hn : n ≤ 1024) (hni : ni ≤ n) (h0 : 0 < k) (hk : fr + k ≤ ni) (at' : Nat → Int) (hb : b < w.heap.size) (pl : Pm b n at' w) (nw1 : Int) (hin : fr + k < n) (HNW : Hid (at' (fr + k) = nw1)) (h : nw1 < rd) (h2 : en ≤ rd) :
    Calls Yba.prog 7 #[.slice (some ⟨b, 0, none⟩) n n, .int .i64 en, .int .i64 ni, .int .i64 fr, .int .i64 nw, .int .i64 (k : Int), .int .i64 rd] w fun e w' => e = .returned (.agg #[.bool false, .int .i64 ((fr + k : Nat) : Int), .int .i64 nw1, .int .i64 0, .int .i64 1]) ∧ Below w.heap.size w w' := by
  have PL : Hid _ := pm_new hb pl
  clear pl
  have hx := fun A1 A2 => PL.out A1 A2 (fr + k) hin
  rw [HNW.out] at hx
  go_enter Yba.func7, Yba.ntmps7
  go_wp2
  refine bodyPost_ret (v := .agg #[.bool false, .int .i64 ((fr : Int) + (k : Int)), .int .i64 nw1, .int .i64 0, .int .i64 1]) (by simp [results, Yba.results7, go_sem]) rfl ⟨ret_agg rfl (by omega) rfl rfl rfl, below2 _ _ _⟩

set_option maxRecDepth 100000 in
set_option maxHeartbeats 2000000 in
theorem model_out_b1 (b n ni fr k : Nat) (en nw rd : Int) (w : World) (hn : n ≤ 1024) (hni : ni ≤ n) (h0 : 0 < k) (hk : fr + k ≤ ni) (at' : Nat → Int) (hb : b < w.heap.size) (pl : Pm b n at' w) (nw1 : Int) (hin : n ≤ fr + k) (HNW : Hid (en = nw1)) (h : rd ≤ nw1) :
    Calls Yba.prog 7 #[.slice (some ⟨b, 0, none⟩) n n, .int .i64 en, .int .i64 ni, .int .i64 fr, .int .i64 nw, .int .i64 (k : Int), .int .i64 rd] w fun e w' => e = .returned (.agg #[.bool true, .int .i64 ((fr + k : Nat) : Int), .int .i64 nw1, .int .i64 0, .int .i64 1]) ∧ Below w.heap.size w w' := by
  have PL : Hid _ := pm_new hb pl
  clear pl
  have e9 := HNW.out
  subst e9
  go_enter Yba.func7, Yba.ntmps7
  go_wp2
  refine bodyPost_ret (v := .agg #[.bool true, .int .i64 ((fr : Int) + (k : Int)), .int .i64 en, .int .i64 0, .int .i64 1]) (by simp [results, Yba.results7, go_sem]) rfl ⟨ret_agg rfl (by omega) rfl rfl rfl, below2 _ _ _⟩

set_option maxRecDepth 100000 in
set_option maxHeartbeats 2000000 in
theorem model_out_b2 (b n ni fr k : Nat) (en nw rd : Int) (w : World) (hn : n ≤ 1024) (hni : ni ≤ n) (h0 : 0 < k) (hk : fr + k ≤ ni) (at' : Nat → Int) (hb : b < w.heap.size) (pl : Pm b n at' w) (nw1 : Int) (hin : n ≤ fr + k) (HNW : Hid (en = nw1)) (h : nw1 < rd) (h2 : en ≤ rd) :
    Calls Yba.prog 7 #[.slice (some ⟨b, 0, none⟩) n n, .int .i64 en, .int .i64 ni, .int .i64 fr, .int .i64 nw, .int .i64 (k : Int), .int .i64 rd] w fun e w' => e = .returned (.agg #[.bool false, .int .i64 ((fr + k : Nat) : Int), .int .i64 nw1, .int .i64 0, .int .i64 1]) ∧ Below w.heap.size w w' := by
  have PL : Hid _ := pm_new hb pl
  clear pl
  have e9 := HNW.out
  subst e9
  go_enter Yba.func7, Yba.ntmps7
  go_wp2
  refine bodyPost_ret (v := .agg #[.bool false, .int .i64 ((fr : Int) + (k : Int)), .int .i64 en, .int .i64 0, .int .i64 1]) (by simp [results, Yba.results7, go_sem]) rfl ⟨ret_agg rfl (by omega) rfl rfl rfl, below2 _ _ _⟩

set_option maxRecDepth 100000 in
set_option maxHeartbeats 2000000 in
theorem model_in_b3 (b n ni fr k : Nat) (en nw rd : Int) (w : World) (hn : n ≤ 1024) (hni : ni ≤ n) (h0 : 0 < k) (hk : fr + k ≤ ni) (at' : Nat → Int) (hb : b < w.heap.size) (pl : Pm b n at' w) (nw1 : Int) (hin : fr + k < n) (HNW : Hid (at' (fr + k) = nw1)) (h : nw1 < rd) (h2 : rd < en) (k0 : Nat) (HS : Hid (IsScan at' n rd (fr + k) k0)) (cs' : Int) (HC : Hid ((fr + k < k0 ∧ cs' = 1 + 1) ∨ (k0 = fr + k ∧ cs' = 1))) :
    Calls Yba.prog 7 #[.slice (some ⟨b, 0, none⟩) n n, .int .i64 en, .int .i64 ni, .int .i64 fr, .int .i64 nw, .int .i64 (k : Int), .int .i64 rd] w fun e w' => e = .returned (.agg #[.bool true, .int .i64 k0, .int .i64 rd, .int .i64 0, .int .i64 cs']) ∧ Below w.heap.size w w' := by
  have PL : Hid _ := pm_new hb pl
  clear pl
  have hx := fun A1 A2 => PL.out A1 A2 (fr + k) hin
  rw [HNW.out] at hx
  go_enter Yba.func7, Yba.ntmps7
  go_wp2
  go_loop [17] (fun i => ∃ m : Nat, (fr + k) ≤ m ∧ m ≤ n ∧ i = .int .i64 m ∧ Hid (∀ j, (fr + k) ≤ j → j < m → at' j < rd)) (fun i => n - (intOf i).toNat)
  case atStart => exact ⟨(fr + k), Nat.le_refl _, by omega, by go_num, fun j h1 h2 => by omega⟩
  case round =>
    obtain ⟨m, hm1, hm2, rfl, hlo⟩ := hrel
    by_cases hmn : m < n
    · have hcm := fun A1 A2 => PL.out A1 A2 m hmn
      by_cases hq : at' m < rd
      · have HQ : Hid _ := hq
        go_wp2
        go_round
        case rel => exact ⟨m + 1, by omega, by omega, by go_num, fun j h1 h2 => by
          rcases Nat.lt_or_ge j m with g | g
          · exact hlo j h1 g
          · have e : j = m := by omega
            rw [e]; exact HQ.out⟩
        case measure => simp [intOf]; omega
      · have E : Hid (m = k0) := IsScan.unique ⟨hm1, hm2, hlo, fun _ => by omega⟩ HS.out
        by_cases hmf : (fr + k) < m
        · go_wp2
          have hh := HC.out
          have e1 : ((m : Nat) : Int) = (k0 : Int) := by rw [E.out]
          have e2 : (2 : Int) = cs' := by have := E.out; rcases hh with ⟨_, _⟩ | ⟨_, _⟩ <;> omega
          refine bodyPost_ret (v := .agg #[.bool true, .int .i64 m, .int .i64 rd, .int .i64 0, .int .i64 2]) (by simp [results, Yba.results7, go_sem]) rfl ⟨ret_agg rfl e1 rfl rfl e2, below2 _ _ _⟩
        · go_wp2
          have hh := HC.out
          have e1 : ((fr : Int) + (k : Int)) = (k0 : Int) := by have := E.out; omega
          have e2 : (1 : Int) = cs' := by have := E.out; rcases hh with ⟨_, _⟩ | ⟨_, _⟩ <;> omega
          refine bodyPost_ret (v := .agg #[.bool true, .int .i64 ((fr : Int) + (k : Int)), .int .i64 rd, .int .i64 0, .int .i64 1]) (by simp [results, Yba.results7, go_sem]) rfl ⟨ret_agg rfl e1 rfl rfl e2, below2 _ _ _⟩
    · have E : Hid (m = k0) := IsScan.unique ⟨hm1, hm2, hlo, fun _ => by omega⟩ HS.out
      by_cases hmf : (fr + k) < m
      · go_wp2
        have hh := HC.out
        have e1 : ((m : Nat) : Int) = (k0 : Int) := by rw [E.out]
        have e2 : (2 : Int) = cs' := by have := E.out; rcases hh with ⟨_, _⟩ | ⟨_, _⟩ <;> omega
        refine bodyPost_ret (v := .agg #[.bool true, .int .i64 m, .int .i64 rd, .int .i64 0, .int .i64 2]) (by simp [results, Yba.results7, go_sem]) rfl ⟨ret_agg rfl e1 rfl rfl e2, below2 _ _ _⟩
      · exfalso
        omega

end Go.Proofs.Ybulkbiwm.Th
