import Derived.Test.YbulkbiwmThT
/-! LawS2989AThought: zzs2989amodel (function 7). -/
namespace Go.Proofs.Ybulkbiwm.Th
open Go.RowKit
set_option linter.unusedVariables false

def Pm (b n : Nat) (at' : Nat → Int) (w : World) : Prop := ∀ k, k < n → w.cell? ⟨b, k * 2, none⟩ = some (.int .i64 (at' k))

theorem ret_agg {r r' : Bool} {a b c d a' b' c' d' : Int} (hr : r = r') (ha : a = a') (hb : b = b') (hc : c = c') (hd : d = d') :
    Ending.returned (.agg #[.bool r, .int .i64 a, .int .i64 b, .int .i64 c, .int .i64 d]) = .returned (.agg #[.bool r', .int .i64 a', .int .i64 b', .int .i64 c', .int .i64 d']) := by
  subst hr ha hb hc hd
  rfl
theorem below2 (w : World) (o1 o2 : Obj) : Below w.heap.size w ((w.alloc o1).alloc o2) := ((Below.refl _ _).alloc (Nat.le_refl _) _).alloc (by simp) _

theorem IsScan.unique {at' : Nat → Int} {n : Nat} {rd : Int} {fr k k' : Nat} (h : IsScan at' n rd fr k) (h' : IsScan at' n rd fr k') : k = k' := by
  obtain ⟨a1, a2, a3, a4⟩ := h
  obtain ⟨b1, b2, b3, b4⟩ := h'
  rcases Nat.lt_trichotomy k k' with g | g | g
  · have x := b3 k a1 g
    have y := a4 (by omega)
    omega
  · exact g
  · have x := a3 k' b1 g
    have y := b4 (by omega)
    omega

set_option maxRecDepth 100000 in
set_option maxHeartbeats 2000000 in
theorem model_wait (b n ni fr : Nat) (en nw wt rd : Int) (w : World) (hn : n ≤ 1024) (hni : ni ≤ n) (hfr : fr ≤ n) (b1 : wt ≤ 9223372036854775807) (h0 : 0 < wt) (h : (ni : Int) - (fr : Int) < wt)
    (wt' : Int) (H : Hid ((0 < (ni : Int) - (fr : Int) ∧ wt' = wt - ((ni : Int) - (fr : Int))) ∨ ((ni : Int) - (fr : Int) ≤ 0 ∧ wt' = wt))) :
    Calls Yba.prog 7 #[.slice (some ⟨b, 0, none⟩) n n, .int .i64 en, .int .i64 ni, .int .i64 fr, .int .i64 nw, .int .i64 wt, .int .i64 rd] w fun e w' => e = .returned (.agg #[.bool false, .int .i64 fr, .int .i64 nw, .int .i64 wt', .int .i64 0]) ∧ Below w.heap.size w w' := by
  go_enter Yba.func7, Yba.ntmps7
  go_wp2
  all_goals
    have hh := H.out
    first
      | (have e : wt - ((ni : Int) - (fr : Int)) = wt' := by rcases hh with ⟨_, _⟩ | ⟨_, _⟩ <;> omega
         refine bodyPost_ret (v := .agg #[.bool false, .int .i64 fr, .int .i64 nw, .int .i64 (wt - ((ni : Int) - (fr : Int))), .int .i64 0]) (by simp [results, Yba.results7, go_sem]) rfl ⟨ret_agg rfl rfl rfl e rfl, below2 _ _ _⟩)
      | (have e : wt = wt' := by rcases hh with ⟨_, _⟩ | ⟨_, _⟩ <;> omega
         refine bodyPost_ret (v := .agg #[.bool false, .int .i64 fr, .int .i64 nw, .int .i64 wt, .int .i64 0]) (by simp [results, Yba.results7, go_sem]) rfl ⟨ret_agg rfl rfl rfl e rfl, below2 _ _ _⟩)

set_option maxRecDepth 100000 in
set_option maxHeartbeats 2000000 in
theorem model_b1 (b n ni fr : Nat) (en nw wt rd : Int) (w : World) (hn : n ≤ 1024) (hni : ni ≤ n) (hfr : fr ≤ n) (h0 : wt ≤ 0) (h : rd ≤ nw) :
    Calls Yba.prog 7 #[.slice (some ⟨b, 0, none⟩) n n, .int .i64 en, .int .i64 ni, .int .i64 fr, .int .i64 nw, .int .i64 wt, .int .i64 rd] w fun e w' => e = .returned (.agg #[.bool true, .int .i64 fr, .int .i64 nw, .int .i64 wt, .int .i64 0]) ∧ Below w.heap.size w w' := by
  go_enter Yba.func7, Yba.ntmps7
  go_wp2
  exact bodyPost_ret (v := .agg #[.bool true, .int .i64 fr, .int .i64 nw, .int .i64 wt, .int .i64 0]) (by simp [results, Yba.results7, go_sem]) rfl ⟨rfl, below2 _ _ _⟩

set_option maxRecDepth 100000 in
set_option maxHeartbeats 2000000 in
theorem model_b2 (b n ni fr : Nat) (en nw wt rd : Int) (w : World) (hn : n ≤ 1024) (hni : ni ≤ n) (hfr : fr ≤ n) (h0 : wt ≤ 0) (h : nw < rd) (h2 : en ≤ rd) :
    Calls Yba.prog 7 #[.slice (some ⟨b, 0, none⟩) n n, .int .i64 en, .int .i64 ni, .int .i64 fr, .int .i64 nw, .int .i64 wt, .int .i64 rd] w fun e w' => e = .returned (.agg #[.bool false, .int .i64 fr, .int .i64 nw, .int .i64 wt, .int .i64 0]) ∧ Below w.heap.size w w' := by
  go_enter Yba.func7, Yba.ntmps7
  go_wp2
  exact bodyPost_ret (v := .agg #[.bool false, .int .i64 fr, .int .i64 nw, .int .i64 wt, .int .i64 0]) (by simp [results, Yba.results7, go_sem]) rfl ⟨rfl, below2 _ _ _⟩

set_option maxRecDepth 100000 in
set_option maxHeartbeats 2000000 in
theorem model_b3 (b n ni fr : Nat) (en nw wt rd : Int) (w : World) (hn : n ≤ 1024) (hni : ni ≤ n) (hfr : fr ≤ n) (h0 : wt ≤ 0) (h : nw < rd) (h2 : rd < en) (at' : Nat → Int) (hb : b < w.heap.size) (pl : Pm b n at' w) (k0 : Nat) (HS : Hid (IsScan at' n rd fr k0)) (cs' : Int) (HC : Hid ((fr < k0 ∧ cs' = 0 + 1) ∨ (k0 = fr ∧ cs' = 0))) :
    Calls Yba.prog 7 #[.slice (some ⟨b, 0, none⟩) n n, .int .i64 en, .int .i64 ni, .int .i64 fr, .int .i64 nw, .int .i64 wt, .int .i64 rd] w fun e w' => e = .returned (.agg #[.bool true, .int .i64 k0, .int .i64 rd, .int .i64 wt, .int .i64 cs']) ∧ Below w.heap.size w w' := by
  have PL : Hid (∀ m, m < n → ((w.alloc (.cells #[.bool false, .int .i64 0, .int .i64 0, .int .i64 0, .int .i64 0] 68)).alloc (.cells #[.bool false, .int .i64 fr, .int .i64 nw, .int .i64 wt, .int .i64 0] 68)).cell? ⟨b, m * 2, none⟩ = some (.int .i64 (at' m))) := by
    intro m hm
    rw [World.cell?_alloc_past _ _ _ (by simp; omega), World.cell?_alloc_past _ _ _ hb]
    exact pl m hm
  clear pl
  go_enter Yba.func7, Yba.ntmps7
  go_wp2
  go_loop [17] (fun i => ∃ m : Nat, fr ≤ m ∧ m ≤ n ∧ i = .int .i64 m ∧ Hid (∀ j, fr ≤ j → j < m → at' j < rd)) (fun i => n - (intOf i).toNat)
  case atStart => exact ⟨fr, Nat.le_refl _, by omega, rfl, fun j h1 h2 => by omega⟩
  case round =>
    obtain ⟨m, hm1, hm2, rfl, hlo⟩ := hrel
    by_cases hmn : m < n
    · have hcm := PL.out m hmn
      by_cases hq : at' m < rd
      · have HQ : Hid _ := hq
        go_wp2
        go_round
        case rel => exact ⟨m + 1, by omega, by omega, by go_num, fun j h1 h2 => by
          rcases Nat.lt_or_ge j m with g | g
          · exact hlo j h1 g
          · have e : j = m := by omega
            rw [e]; exact HQ.out⟩
        case measure => simp [intOf]; omega
      · have E : Hid (m = k0) := IsScan.unique ⟨hm1, hm2, hlo, fun _ => by omega⟩ HS.out
        by_cases hmf : fr < m
        · go_wp2
          have hh := HC.out
          have e1 : ((m : Nat) : Int) = (k0 : Int) := by rw [E.out]
          have e2 : ((0 : Int)) + 1 = cs' := by have := E.out; rcases hh with ⟨_, _⟩ | ⟨_, _⟩ <;> omega
          refine bodyPost_ret (v := .agg #[.bool true, .int .i64 m, .int .i64 rd, .int .i64 wt, .int .i64 ((0 : Int) + 1)]) (by simp [results, Yba.results7, go_sem]) rfl ⟨ret_agg rfl e1 rfl rfl e2, below2 _ _ _⟩
        · go_wp2
          have hh := HC.out
          have e1 : ((fr : Nat) : Int) = (k0 : Int) := by have := E.out; omega
          have e2 : ((0 : Int)) = cs' := by have := E.out; rcases hh with ⟨_, _⟩ | ⟨_, _⟩ <;> omega
          refine bodyPost_ret (v := .agg #[.bool true, .int .i64 fr, .int .i64 rd, .int .i64 wt, .int .i64 (0 : Int)]) (by simp [results, Yba.results7, go_sem]) rfl ⟨ret_agg rfl e1 rfl rfl e2, below2 _ _ _⟩
    · have E : Hid (m = k0) := IsScan.unique ⟨hm1, hm2, hlo, fun _ => by omega⟩ HS.out
      by_cases hmf : fr < m
      · go_wp2
        have hh := HC.out
        have e1 : ((m : Nat) : Int) = (k0 : Int) := by rw [E.out]
        have e2 : ((0 : Int)) + 1 = cs' := by have := E.out; rcases hh with ⟨_, _⟩ | ⟨_, _⟩ <;> omega
        refine bodyPost_ret (v := .agg #[.bool true, .int .i64 m, .int .i64 rd, .int .i64 wt, .int .i64 ((0 : Int) + 1)]) (by simp [results, Yba.results7, go_sem]) rfl ⟨ret_agg rfl e1 rfl rfl e2, below2 _ _ _⟩
      · go_wp2
        have hh := HC.out
        have e1 : ((fr : Nat) : Int) = (k0 : Int) := by have := E.out; omega
        have e2 : ((0 : Int)) = cs' := by have := E.out; rcases hh with ⟨_, _⟩ | ⟨_, _⟩ <;> omega
        refine bodyPost_ret (v := .agg #[.bool true, .int .i64 fr, .int .i64 rd, .int .i64 wt, .int .i64 (0 : Int)]) (by simp [results, Yba.results7, go_sem]) rfl ⟨ret_agg rfl e1 rfl rfl e2, below2 _ _ _⟩

end Go.Proofs.Ybulkbiwm.Th
