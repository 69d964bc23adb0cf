import Derived.Test.YbulkbjauTailF
import Derived.Deep.Cut
import Derived.Deep.DeepCutAuto
/-! LawS2997AHandOn. -/
namespace Go.Proofs.Ybulkbjau
open Go.RowKit Go.MuLone
set_option linter.unusedVariables false
attribute [local go_sem ↓] Go.wp_at_zero Go.wp_at_succ

set_option maxRecDepth 100000 in
set_option maxHeartbeats 4000000 in
theorem law_some (a0 : Option Addr) (len cap : Nat) (sel held pre : Int) (z : Nat → Int) (w : World) (hlen : len ≤ 1024) (hs : 0 ≤ sel ∧ sel ≤ 255) (hh : -9223372036854775808 ≤ held ∧ held ≤ 9223372036854775807) (hp : 0 ≤ pre ∧ pre ≤ 255)
    (hz : ∀ k, 0 ≤ z k ∧ z k ≤ 255) (hsrc : ∀ k, k < len → ∃ ad, a0 = some ad ∧ w.cell? (ad.add k) = some (.int .u8 (z k))) :
    Calls Yba.prog 3 #[.slice a0 len cap, .int .u8 sel, .int .i64 held, .int .u8 pre] w fun e w' => e = .returned (.bool true) ∧ Below w.heap.size w w' := by
  have HSRC := hid hsrc
  have HZ := hid hz
  obtain ⟨cnt, hcnt⟩ : ∃ cnt : Nat → Nat, ∀ k, cnt k = (z k % 20).toNat := ⟨_, fun _ => rfl⟩
  have CNT := hid hcnt
  clear hcnt
  obtain ⟨np, hnp4, hnp⟩ : ∃ np : Nat, np < 4 ∧ pre.tmod 4 = (np : Int) := ⟨(pre % 4).toNat, by omega, by rw [Int.tmod_eq_emod_of_nonneg hp.1]; omega⟩
  obtain ⟨B, hB⟩ : ∃ B, w.heap.size = B := ⟨_, rfl⟩
  have wnp : wrap64 (np : Int) = np := by unfold wrap64; omega
  have ST : Hid (L1 B 0 w ((w.alloc (Obj.cells #[Value.slice none 0 0] 23)).alloc (Obj.cells (PA 0 (.slice none 0 0) 0 0 0) 45))) := by
    rw [← hB]
    refine ⟨((Below.refl _ w).alloc (Nat.le_refl _) _).alloc (by simp) _, ?_, .slice none 0 0, ⟨[], .inl ⟨rfl, rfl, rfl⟩, trivial, ?_⟩, by intro b hb; simp [Value.ownBlock] at hb⟩
    · rw [Below.heap_alloc _ _ _ (by simp)]
      exact Go.heap_alloc_new _ _
    · have s1 : (w.alloc (Obj.cells #[Value.slice none 0 0] 23)).heap.size = w.heap.size + 1 := by simp
      rw [← s1]
      exact Go.heap_alloc_new _ _
  simp only [PA] at ST
  clear hz hsrc
  go_enter Yba.func3, Yba.ntmps3
  go_wp2
  try simp only [hB] at ST ⊢
  go_loopw [13] (fun i wr => ∃ (j : Nat), j ≤ np ∧ i = .int .i64 j ∧ L1 B j w wr) (fun i _ => np - (intOf i).toNat)
  case atStart => exact ⟨0, Nat.zero_le _, rfl, ST.out⟩
  case round =>
    obtain ⟨j, hj, rfl, hst⟩ := hrel
    clear ST
    by_cases hlt : j < np
    · have STP := hid (fun (p : Nat × Nat) (W : World) (hm : Made B p (-1 - (j : Int)) wr W) => l1_step hst (by omega) p W hm)
      have hv : IntKind.i64.wrap (-1 - (j : Int)) = -1 - (j : Int) := by rw [IntKind.wrap_i64]; omega
      have MK : Hid (Made B (wr.heap.size, wr.heap.size + 1) (IntKind.i64.wrap (-1 - (j : Int))) wr (((wr.alloc (.cells #[.pointer (some ⟨B, 0, none⟩)] 48)).alloc (.cells #[.int .i64 (IntKind.i64.wrap (-1 - (j : Int)))] 3)).drew)) := (made_new B _ wr).drew
      have STP' := hid (fun (p : Nat × Nat) (W : World) (hm : Made B p (IntKind.i64.wrap (-1 - (j : Int))) wr W) => STP.out p W (by rw [← hv]; exact hm))
      clear STP hv
      clear hst
      go_wp2
      go_region_held3 (fun _ => True) (first | go_keep | trivial)
        (first
        | (go_at_call 8; refine (task_new _ _ _).mono ?_; rintro e w1 ⟨rfl, rfl⟩)
        | (go_at_call 7; refine (STP'.out _ _ MK.out).mono ?_; rintro e w2 ⟨rfl, hn⟩))
      go_wp2
      go_roundw
      case rel => exact ⟨j + 1, by omega, by go_num, hn⟩
      case measure => simp [intOf]; omega
    · obtain rfl : j = np := by omega
      obtain ⟨N, hN⟩ : ∃ N, wr.heap.size = N := ⟨_, rfl⟩
      have KS := hid (ks_start hst len held cnt)
      have NB : Hid (B ≤ N) := by show B ≤ N; rw [← hN]; exact Nat.le_of_lt (lt_of_block hst.log)
      obtain ⟨r0, ⟨ps0, _, _, hP0⟩, _⟩ := hst.bl
      have c13 : wr.cell? ⟨B + 1, 13, none⟩ = some (.int .i64 0) := cell_of hP0 13
      have z13 := free_of hP0 13
      have BL := hid hst.below
      clear hst hP0
      have hmm : ∀ w : World, (Instr.makeMap 50 none).run Yba.prog w = .ok (.map (some w.heap.size)) (w.alloc (.map #[] 0)) := fun _ => rfl
      have BL2 : Hid (Below B w (((wr.setCell ⟨B + 1, 13, none⟩ (.int .i64 held)).alloc (.map #[] 0)).alloc (.cells #[.pointer (some ⟨B + 1, 0, none⟩), .map (some wr.heap.size), .int .i64 len] 52))) := by
        have := BL.out.size
        exact ((BL.out.setCell (by simp) _).alloc (by simp; omega) _).alloc (by simp; omega) _
      clear BL
      go_wp2
      try simp only [hN] at KS BL2 ⊢
      go_loopw [15] (fun i wr => ∃ (k : Nat), k ≤ len ∧ i = .int .i64 k ∧ Ks B (B + 1) (N + 1) N N len j held cnt k wr ∧ Below B w wr) (fun i _ => len - (intOf i).toNat)
      case atStart => exact ⟨0, Nat.zero_le _, rfl, KS.out, BL2.out⟩
      case round =>
        obtain ⟨k, hk, rfl, hks, hbel⟩ := hrel
        clear KS BL2
        obtain ⟨wo, rfl⟩ : ∃ x, x = wr := ⟨_, rfl⟩
        by_cases hlt : k < len
        · obtain ⟨ad, ha, hc⟩ := HSRC.out k hlt
          obtain ⟨a, hza⟩ : ∃ a, z k = a := ⟨_, rfl⟩
          obtain ⟨za1, za2⟩ := HZ.out k
          rw [hza] at hc za1 za2
          have hix : (Instr.indexAt 22 (.slice a0 len cap) (.int .i64 k)).run Yba.prog (wo.alloc (.cells #[.slice none 0 0, .int .i64 0, .int .i64 0] 39)) = .ok (.pointer (some (ad.add k))) (wo.alloc (.cells #[.slice none 0 0, .int .i64 0, .int .i64 0] 39)) := idx22 ha hlt _
          have hlb : (ad.add k).block < B := by rw [← hB]; exact World.block_lt_of_cell? _ _ hc
          have hBs : B ≤ wo.heap.size := by rw [← hB]; exact hbel.size
          have hc' : (wo.alloc (.cells #[.slice none 0 0, .int .i64 0, .int .i64 0] 39)).cell? (ad.add k) = some (.int .u8 a) := ((hbel.alloc hBs _).cell hlb).trans hc
          obtain ⟨c, hc20⟩ : ∃ c, cnt k = c := ⟨_, rfl⟩
          have hcz : c = (a % 20).toNat := by rw [← hc20, CNT.out k, hza]
          have hc19 : c < 20 := by omega
          have hjj : a.tmod 20 = (c : Int) := by rw [Int.tmod_eq_emod_of_nonneg za1]; omega
          have HC := hid hc20
          clear hcz hc20
          obtain ⟨q, hq⟩ : ∃ q, wo.heap.size = q := ⟨_, rfl⟩
          have QS := hid (qs_start B wo)
          have KSr := hid hks
          have BLr := hid hbel
          clear hks hbel hc ha hlb
          go_wp2
          try simp only [hq] at QS ⊢
          go_loopw [18] (fun i wq => ∃ (n : Nat), n ≤ c ∧ i = .int .i64 n ∧ Qs B q (vK k n) wo wq) (fun i _ => c - (intOf i).toNat)
          case atStart => exact ⟨0, Nat.zero_le _, rfl, QS.out⟩
          case round =>
            obtain ⟨n, hn, rfl, hqs⟩ := hrel
            clear QS
            by_cases hln : n < c
            · have STP := hid (fun (p : Nat × Nat) (W : World) (hm : Made B p ((k : Int) * 100 + (n : Int)) wr W) => qs_step hqs (by rw [vK_len]; omega) _ p W hm)
              have MK : Hid (∀ v, Made B (wr.heap.size, wr.heap.size + 1) v wr ((wr.alloc (.cells #[.pointer (some ⟨B, 0, none⟩)] 48)).alloc (.cells #[.int .i64 v] 3))) := fun v => made_new B v wr
              clear hqs
              go_wp2_with (first
                | (go_at_call 8; refine (task_new _ _ _).mono ?_; rintro e w1 ⟨rfl, rfl⟩)
                | (go_at_call 7; refine (STP.out _ _ (MK.out _)).mono ?_; rintro e w2 ⟨rfl, hn2⟩))
              rw [← vK_succ] at hn2
              go_roundw
              case rel => exact ⟨n + 1, by omega, by go_num, hn2⟩
              case measure => simp [intOf]; omega
            · obtain rfl : n = c := by omega
              have hqs' : Qs B q (vK k (cnt k)) wo wr := by rw [HC.out]; exact hqs
              obtain ⟨r, w', hQ, hK, hup, hks', hF⟩ := ks_next KSr.out hqs' (by omega)
              rw [HC.out] at hQ hup
              have m1 : wr.cell? ⟨N + 1, 1, none⟩ = some (.map (some N)) := cell_of hK 1
              have u0 : wr.cell? ⟨q, 0, none⟩ = some r := cell_of hQ 0
              have u1 : wr.cell? ⟨q, 1, none⟩ = some (.int .i64 0) := cell_of hQ 1
              have u2 : wr.cell? ⟨q, 2, none⟩ = some (.int .i64 n) := cell_of hQ 2
              have NXT := hid hks'
              have BLN : Hid (Below B w w') := below_fr (below_fr BLr.out hBs hqs.fr (fun _ h => h.elim)) (Nat.le_trans hBs hqs.fr.size) hF (by rintro k rfl; exact NB.out)
              clear hqs hqs' hQ hK hks' hF KSr
              go_wp2
              go_region
              go_wp2
              go_roundw
              case rel => exact ⟨k + 1, by omega, by go_num, NXT.out, BLN.out⟩
              case measure => simp [intOf]; omega
        · obtain ⟨t, ht, htt⟩ : ∃ t : Nat, t ≤ len ∧ sel.tmod ((len : Int) + 1) = (t : Int) := by
            refine ⟨(sel % ((len : Int) + 1)).toNat, ?_, ?_⟩
            · have := Int.emod_lt_of_pos sel (by omega : (0 : Int) < (len : Int) + 1)
              have := Int.emod_nonneg sel (by omega : (len : Int) + 1 ≠ 0)
              omega
            · rw [Int.tmod_eq_emod_of_nonneg hs.1]
              have := Int.emod_nonneg sel (by omega : (len : Int) + 1 ≠ 0)
              omega
          obtain rfl : k = len := by omega
          obtain ⟨tc, htc⟩ : ∃ tc, tc = if t < k then cnt t else 0 := ⟨_, rfl⟩
          have hBs : B ≤ wo.heap.size := by rw [← hB]; exact hbel.size
          have htc20 : Hid (tc < 20) := by show tc < 20; rw [htc]; split; rw [CNT.out t]; omega; omega
          have FIN := hid (af_any hks hbel NB.out hBs hlen ht htc hnp4)
          have BLr := hid hbel
          have TC := hid htc
          clear hks hbel htc
          go_upto_if 105 with fail
          go_cut [20] (fun s20 wx => s20 = .int .i64 tc ∧ wx = wo)
          case first =>
            by_cases htl : t < k
            · obtain ⟨ad, ha, hc⟩ := HSRC.out t htl
              obtain ⟨a, hza⟩ : ∃ a, z t = a := ⟨_, rfl⟩
              obtain ⟨za1, za2⟩ := HZ.out t
              rw [hza] at hc za1 za2
              have hix : (Instr.indexAt 22 (.slice a0 k cap) (.int .i64 t)).run Yba.prog wo = .ok (.pointer (some (ad.add t))) wo := idx22 ha htl _
              have hlb : (ad.add t).block < B := by rw [← hB]; exact World.block_lt_of_cell? _ _ hc
              have hc' : wo.cell? (ad.add t) = some (.int .u8 a) := (BLr.out.cell hlb).trans hc
              have hcz : tc = (a % 20).toNat := by rw [TC.out, if_pos htl, CNT.out t, hza]
              have hjj : a.tmod 20 = (tc : Int) := by rw [Int.tmod_eq_emod_of_nonneg za1]; omega
              clear hcz hc ha hlb
              go_wp2
              go_meet
              case rel => exact ⟨rfl, rfl⟩
            · have h0 : tc = 0 := by rw [TC.out, if_neg htl]
              subst h0
              go_wp2
              go_meet
              case rel => exact ⟨rfl, rfl⟩
          case rest =>
            obtain ⟨rfl, rfl⟩ := hcut
            go_wp2_with fail
            refine Calls.mono FIN.out ?_
            rintro e w3 ⟨rfl, hb3, sz, held', vsB, vsQ, hway, haf⟩
            obtain ⟨rB, f, hbl, hmap, hothers, hleft, _⟩ := haf.rest
            obtain ⟨psB, hrB, htB, hpB⟩ := hbl
            have p4 : w3.cell? ⟨B + 1, 4, none⟩ = some (.int .i32 0) := cell_of hpB 4
            have z4 := free_of hpB 4
            have TRY := hid (tryLock ⟨B + 1, 4, none⟩ w3 p4 z4)
            have p5 : (w3.setCell ⟨B + 1, 4, none⟩ (.int .i32 1)).heap[B + 1]? = _ := heap_setCell_same w3 (B + 1) 4 _ _ (.int .i32 1) hpB
            have UNL := hid (unlock_held muLib ⟨B + 1, 4, none⟩ _ (cell_of p5 4) (free_of p5 4))
            obtain ⟨w4, hw4⟩ : ∃ x, (w3.setCell ⟨B + 1, 4, none⟩ (.int .i32 1)).setCell ⟨B + 1, 4, none⟩ (.int .i32 0) = x := ⟨_, rfl⟩
            have FL : Fr (fun _ => False) w3 w4 := hw4 ▸ fr_lock hpB rfl _
            have haf4 := haf.keep FL
            have hb4 : Below B w w4 := below_fr hb3 (Nat.le_of_lt (lt_of_block haf.log)) FL (fun _ h => h.elim)
            have k2 : w4.cell? ⟨N + 1, 2, none⟩ = some (.int .i64 k) := cell_of haf4.kd 2
            have AF := hid haf4
            have B4 := hid hb4
            clear hmap hothers hleft hrB htB hpB p5 FL haf4 hb4 haf hb3 p4 z4
            go_wp2_with (first | (go_at_call 10; refine TRY.out.mono ?_; rintro e w5 ⟨rfl, rfl⟩) | (go_at_call 11; refine UNL.out.mono ?_; rintro e w5 ⟨rfl, rfl⟩))
            go_loopw [21] (fun i wr => ∃ (n : Nat), n ≤ k ∧ i = .int .i64 n ∧ Af B (B + 1) (N + 1) N k sz held' cnt t vsB vsQ wr ∧ Below B w wr) (fun i _ => k - (intOf i).toNat)
            case atStart => exact ⟨0, Nat.zero_le _, rfl, AF.out, B4.out⟩
            case round =>
              obtain ⟨n, hn, rfl, haf, hbel⟩ := hrel
              clear AF B4
              by_cases hln : n < k
              · by_cases hnt : n = t
                · have AF := hid haf
                  have B4 := hid hbel
                  have e1 : ((n : Int) == (t : Int)) = true := by simp; omega
                  clear haf hbel
                  go_wp2
                  go_roundw
                  case rel => exact ⟨n + 1, by omega, by go_num, AF.out, B4.out⟩
                  case measure => simp [intOf]; omega
                · have e1 : ((n : Int) == (t : Int)) = false := by simp; omega
                  obtain ⟨rB, f, hbl, hmap, hothers, hleft, _⟩ := haf.rest
                  obtain ⟨sa, sl, sc, sh, hfn⟩ := hothers n hln hnt
                  have LK := hmap.look_ok n (by omega)
                  rw [hfn] at LK
                  simp only [Option.getD, Option.isSome] at LK
                  obtain ⟨ad, ha, hc⟩ := HSRC.out n hln
                  obtain ⟨a, hza⟩ : ∃ a, z n = a := ⟨_, rfl⟩
                  obtain ⟨za1, za2⟩ := HZ.out n
                  rw [hza] at hc za1 za2
                  have hix : ∀ W : World, (Instr.indexAt 22 (.slice a0 k cap) (.int .i64 n)).run Yba.prog W = .ok (.pointer (some (ad.add n))) W := fun W => idx22 ha hln W
                  have hlb : (ad.add n).block < B := by rw [← hB]; exact World.block_lt_of_cell? _ _ hc
                  have hBr : B ≤ wr.heap.size := Nat.le_of_lt (lt_of_block haf.log)
                  obtain ⟨V, hV⟩ : ∃ V, wr.alloc (.cells #[.slice sa sl sc, .int .i64 sh, .int .i64 (cnt n)] 39) = V := ⟨_, rfl⟩
                  have BV : Below B w V := hV ▸ hbel.alloc hBr _
                  have AV : Af B (B + 1) (N + 1) N k sz held' cnt t vsB vsQ V := haf.keep (hV ▸ (Fr.refl _ wr).alloc _)
                  have hc' : V.cell? (ad.add n) = some (.int .u8 a) := (BV.cell hlb).trans hc
                  have v2 : V.cell? ⟨wr.heap.size, 2, none⟩ = some (.int .i64 (cnt n)) := by rw [← hV]; exact cell_of (Go.heap_alloc_new _ _) 2
                  have hjj : a.tmod 20 = ((cnt n : Nat) : Int) := by rw [Int.tmod_eq_emod_of_nonneg za1, CNT.out n, hza]; omega
                  have m1 : wr.cell? ⟨N + 1, 1, none⟩ = some (.map (some N)) := cell_of haf.kd 1
                  have AVD : Hid (∀ nq, Af B (B + 1) (N + 1) N k sz held' cnt t vsB vsQ (V.drewN nq) ∧ Below B w (V.drewN nq)) := fun nq => ⟨AV.keep ⟨rfl, rfl, rfl, Nat.le_refl _, fun _ _ _ => rfl⟩, ⟨BV.os, BV.tape, BV.output, BV.size, BV.block⟩⟩
                  clear hc ha hlb hbl hmap hothers hleft haf hbel AV BV hfn
                  go_wp2
                  go_quiet (fail)
                  go_wp2
                  go_roundw
                  case rel => exact ⟨n + 1, by omega, by go_num, AVD.out _⟩
                  case measure => simp [intOf]; omega
              · obtain rfl : n = k := by omega
                have AF := hid haf
                have B4 := hid hbel
                have hBr : B ≤ wr.heap.size := Nat.le_of_lt (lt_of_block haf.log)
                have WAY := hid hway
                clear haf hbel hway
                obtain ⟨wf, hwf⟩ : ∃ x, x = wr := ⟨_, rfl⟩
                subst hwf
                go_upto_region 40 with fail
                go_cut [24] (fun s24 wx => s24 = .bool (decide (0 < tc)) ∧ wx = wf)
                case first =>
                  go_wp2
                  go_meet
                  case rel => exact ⟨by simp, rfl⟩
                case rest =>
                  obtain ⟨rfl, rfl⟩ := hcut
                  go_step
                  exact tail_zero B N n j t tc sz held held' _ cnt vsB vsQ w _ hB hlen hnp4 ht htc20.out WAY.out rfl hh AF.out B4.out
end Go.Proofs.Ybulkbjau
