import Derived.Test.YbulkbjauTailC
/-! LawS2997AHandOn: behind the backlog's draining: the wanted list; the key's queue is drained. -/
namespace Go.Proofs.Ybulkbjau
open Go.RowKit Go.MuLone
set_option linter.unusedVariables false
attribute [local go_sem ↓] Go.wp_at_zero Go.wp_at_succ

set_option maxRecDepth 100000 in
set_option maxHeartbeats 4000000 in
theorem tail_two (B D N np t tc : Nat) (m : Int) (hd : Bool) (lv : Value) (xs : List Int) (vsQ : Option (List Int)) (w0 w : World) (hB : w0.heap.size = B) (hBD : B < D) (hD : D ≤ w.heap.size) (hnp4 : np < 4) (ht : t ≤ 1024) (htc20 : tc < 20) (hway : Way2 np t tc hd xs vsQ)
    (hl : w.heap[B]? = some (.cells #[lv] 23 (0, 0))) (ho : w.ownsRow D 3 1 lv xs.length (xs.map (Value.int .i64))) (hb : Below B w0 w)
    (hkd : w.heap[N + 1]? = some (.cells #[.pointer (some ⟨B + 1, 0, none⟩), .map (some N), .int .i64 m] 52 (0, 0))) (hkept : Kept B D N t vsQ w)
    {u0 u1 u2 u3 u4 u5 u6 u7 u8 u9 u11 u13 u15 u16 u17 u18 u21 u22 u23 u25 u26 u27 u28 u29 u30 u31 u32 u33 u34 u35 u36 u37 u38 u39 u40 u41 u42 u43 u44 u45 u46 u47 u48 u49 u50 u51 u52 u53 u54 u55 u56 u57 u58 u59 u60 u61 u62 u63 u64 u65 u66 u67 u68 u69 u70 u71 u72 u73 u74 u75 u76 u77 u78 u79 u80 u81 u82 u83 u84 u85 u86 u87 u88 u89 u90 u91 u92 u93 u94 u95 u96 u97 u98 u99 u100 u101 u102 u103 u104 u105 u106 u107 u108 u109 u110 u111 u112 u113 u114 u115 u116 u117 u118 u119 u120 u121 u122 u123 u124 u125 u126 u127 u128 u129 u130 u131 u132 u133 u134 u135 u136 u137 u138 u139 u140 u141 u142 u143 u144 u145 u146 u147 u148 u149 u150 u151 u152 u153 u154 u155 u156 u157 u158 u159 u160 u161 u162 u163 u164 u165 u166 u167 u168 u169 u170 u171 u172 u173 u174 u175 u176 u177 u178 u179 u180 u181 u182 u183 u184 u185 u186 u187 u188 u189 u190 u191 u192 u193 u194 u195 u196 u197 u198 u199 u200 u201 u202 u203 u204 u205 u206 u207 u208 u209 u210 u211 u212 u213 u214 u215 u216 u217 u218 u219 u220 u221 u222 u223 u224 u225 u226 u227 u228 u229 u230 u231 u232 u233 u234 u235 u236 u237 u238 u239 u240 u241 u242 u243 u244 u245 u246 u247 u248 u249 u250 u251 u252 u253 u254 u255 u256 u257 u258 u259 u260 u261 u262 u263 u264 u265 u266 u267 u268 u269 u270 u271 u272 u273 u274 u275 u276 u277 u278 u279 u280 u281 u282 u283 u284 u285 u286 u287 u288 u289 u290 u291 u292 u293 u294 u295 u296 u297 u298 u299 u300 u301 u302 u303 u304 u305 u306 u307 u308 u309 u310 u311 u312 u313 u314 u315 u316 u317 u318 u319 u320 u321 u322 u323 u324 u325 u326 u327 u328 : Value} :
    (textFrom Yba.f3 21).wp Yba.prog (bodyPost Yba.prog Yba.f3 fun e w' => e = .returned (.bool true) ∧ Below w0.heap.size w0 w') { tmps := #[u0, u1, u2, u3, u4, u5, u6, u7, u8, u9, .pointer (some ⟨B, 0, none⟩), u11, .int .i64 np, u13, .pointer (some ⟨N + 1, 0, none⟩), u15, u16, u17, u18, .int .i64 t, .int .i64 tc, u21, u22, u23, .bool hd, u25, u26, u27, u28, u29, u30, u31, u32, u33, u34, u35, u36, u37, u38, u39, u40, u41, u42, u43, u44, u45, u46, u47, u48, u49, u50, u51, u52, u53, u54, u55, u56, u57, u58, u59, u60, u61, u62, u63, u64, u65, u66, u67, u68, u69, u70, u71, u72, u73, u74, u75, u76, u77, u78, u79, u80, u81, u82, u83, u84, u85, u86, u87, u88, u89, u90, u91, u92, u93, u94, u95, u96, u97, u98, u99, u100, u101, u102, u103, u104, u105, u106, u107, u108, u109, u110, u111, u112, u113, u114, u115, u116, u117, u118, u119, u120, u121, u122, u123, u124, u125, u126, u127, u128, u129, u130, u131, u132, u133, u134, u135, u136, u137, u138, u139, u140, u141, u142, u143, u144, u145, u146, u147, u148, u149, u150, u151, u152, u153, u154, u155, u156, u157, u158, u159, u160, u161, u162, u163, u164, u165, u166, u167, u168, u169, u170, u171, u172, u173, u174, u175, u176, u177, u178, u179, u180, u181, u182, u183, u184, u185, u186, u187, u188, u189, u190, u191, u192, u193, u194, u195, u196, u197, u198, u199, u200, u201, u202, u203, u204, u205, u206, u207, u208, u209, u210, u211, u212, u213, u214, u215, u216, u217, u218, u219, u220, u221, u222, u223, u224, u225, u226, u227, u228, u229, u230, u231, u232, u233, u234, u235, u236, u237, u238, u239, u240, u241, u242, u243, u244, u245, u246, u247, u248, u249, u250, u251, u252, u253, u254, u255, u256, u257, u258, u259, u260, u261, u262, u263, u264, u265, u266, u267, u268, u269, u270, u271, u272, u273, u274, u275, u276, u277, u278, u279, u280, u281, u282, u283, u284, u285, u286, u287, u288, u289, u290, u291, u292, u293, u294, u295, u296, u297, u298, u299, u300, u301, u302, u303, u304, u305, u306, u307, u308, u309, u310, u311, u312, u313, u314, u315, u316, u317, u318, u319, u320, u321, u322, u323, u324, u325, u326, u327, u328], defers := [] } w := by
  obtain ⟨i0, hi, hz0, hz1, hz2⟩ := info_parts Yba.info3
  generalize hQ : bodyPost Yba.prog Yba.f3 _ = Q
  unfold textFrom Yba.f3
  simp only [Option.getD, after]
  subst hQ
  have ST : Hid (W6 B D lv (.slice none 0 0) xs (vB 0) w0 w w) := ⟨Wn.start hBD hD hl ho hb, Fr.refl _ _, by intro b hb; simp [Value.ownBlock] at hb⟩
  have KD := hid hkd
  have KP := hid hkept
  have WAY := hid hway
  clear hl ho hb hkd hkept hway
  go_wp2
  go_loopw [32, 33] (fun s32 i wr => ∃ (j : Nat), j ≤ np ∧ i = .int .i64 j ∧ W6 B D lv s32 xs (vB j) w0 w wr) (fun _ i _ => np - (intOf i).toNat)
  case atStart => exact ⟨0, Nat.zero_le _, rfl, ST.out⟩
  case round =>
    obtain ⟨j, hj, rfl, hst⟩ := hrel
    clear ST
    by_cases hlt : j < np
    · have ST := hid hst
      have OWN := hid hst.wn.want
      have hDr := hst.wn.hD
      have hlen : (vB j).length = j := vB_len j
      clear hst
      go_wp2_with (at_builtin; (refine wpList_append_lies _ rfl _ _ 23 rfl D 3 i0 (.int .i64 0) 1 8 Yba.underlying23 hi hz0 hz1 hz2 rfl (by decide) _ _ _ rfl (OWN.out.alloc _) ⟨wr.heap.size, 0, none⟩ 1 1 [.int .i64 (-1 - (j : Int))] rfl rfl (cell_one_new _ _ _) (ints_oneCell .i64 [_]) (by omega) (by unfold maxLen; omega) (by omega) (by simp; omega) _ rfl ?_); intro g cap w1 hown hgr hg hlt2)
      have NX := hid (ST.out.step hown hgr hg)
      rw [← vB_succ, hlen] at NX
      clear hown hgr hg
      go_roundw
      case rel => exact ⟨j + 1, by omega, by go_num, NX.out⟩
      case measure => simp [intOf]; omega
    · obtain rfl : j = np := by omega
      have ST := hid hst
      clear hst
      obtain ⟨xt, hxt⟩ : ∃ xt, xt = if hd then xs ++ vT t (tc - 1) else xs := ⟨_, rfl⟩
      have XL : Hid (xt.length ≤ 1000) := by
        show xt.length ≤ 1000
        rw [hxt]
        rcases WAY.out with ⟨c, hc, rfl, rfl, _⟩ | ⟨h0, rfl, rfl, _⟩
        · simp [vT_len, vB_len]; omega
        · simp [vB_len]; omega
      have HXT := hid hxt
      clear hxt
      go_upto_if 270 with fail
      go_cut [32] (fun s32 wx => ∃ lv, Ends B D lv s32 xt w0 wx)
      case first =>
        have hway := WAY.out
        clear WAY
        rcases hway with ⟨c, hc, rfl, rfl, rfl⟩ | ⟨h0, rfl, rfl, rfl⟩
        ·
          have OWN := hid ST.out.wn.want
          have hDr := ST.out.wn.hD
          have hlen : (vB j).length = j := vB_len j
          have EXT : Hid (xt = (vB j ++ [(t : Int) * 100]) ++ vT t c) := by
            have e : xt = (vB j ++ [(t : Int) * 100]) ++ vT t (tc - 1) := HXT.out
            show xt = _
            rw [e, hc]
            rfl
          have HC := hid hc
          clear hc HXT
          obtain ⟨wo, rfl⟩ : ∃ x, x = wr := ⟨_, rfl⟩
          go_wp2_with (at_builtin; (refine wpList_append_lies _ rfl _ _ 23 rfl D 3 i0 (.int .i64 0) 1 8 Yba.underlying23 hi hz0 hz1 hz2 rfl (by decide) _ _ _ rfl (OWN.out.alloc _) ⟨wo.heap.size, 0, none⟩ 1 1 [.int .i64 ((t : Int) * 100)] rfl rfl (cell_one_new _ _ _) (ints_oneCell .i64 [_]) (by omega) (by unfold maxLen; omega) (by omega) (by simp; omega) _ rfl ?_); intro g cap w1 hown hgr hg hlt2; obtain ⟨sa, sl, sc, h', LK, k1, DR0, MID0⟩ := hand_start (ST.out.step hown hgr hg) ht KD.out KP.out; (simp only [vT_len, hlen] at LK DR0 MID0); have hDV : D ≤ (w1.alloc (Obj.cells #[.slice sa sl sc, .int .i64 h', .int .i64 c] 39)).heap.size := Nat.le_trans (Nat.le_trans hD ((ST.out.step hown hgr hg).fr.size)) (by simp); have DR := hid DR0; have MID := hid MID0; clear hown hgr hg DR0 MID0)
          go_loopg [] c (fun k wr => ∃ done rest, done ++ rest = (vB j ++ [(t : Int) * 100]) ++ vT t c ∧ rest.length = k ∧ Dr B D w1.heap.size 0 39 #[.slice sa sl sc, .int .i64 h', .int .i64 c] (.slice sa sl sc) lv (w1.alloc (.cells #[.slice sa sl sc, .int .i64 h', .int .i64 c] 39)) done rest wr)
          case atStart => exact ⟨_, _, rfl, vT_len _ _, DR.out⟩
          case round =>
            obtain ⟨done, rest, hdr, hrk, dr⟩ := hrel
            clear DR
            have hdl : done.length ≤ 1000 := by
              have := congrArg List.length hdr
              simp [vT_len, vB_len] at this
              have := HC.out
              omega
            obtain ⟨rq, hq', psq, hQ, _, _, _, _⟩ := dr.q
            cases rest with
            | cons v vs =>
              have c2 : wr.cell? ⟨w1.heap.size, 2, none⟩ = some (.int .i64 (vs.length + 1)) := by rw [cell_of hQ 2]; simp [qput]
              obtain ⟨p, POP0⟩ := drain_step dr (by simp) (by decide) hBD hDV hdl
              simp only [tk] at POP0
              have POP := hid POP0
              have EQ := eq_func_nil (.func 19) #[] #[.pointer (some ⟨p.1, 0, none⟩), .pointer (some ⟨p.2, 0, none⟩)]
              clear dr POP0 hQ
              go_wp2_with (first | (go_at_call 12; refine POP.out.mono ?_; rintro e w3 ⟨rfl, RUN0⟩; have RUN := hid RUN0; clear RUN0) | (go_at_call 19; refine RUN.out.mono ?_; rintro e w4 ⟨rfl, dr2⟩))
              go_roundg vs.length
              case measure => simp at hrk; omega
              case rel => exact ⟨done ++ [v], vs, by simpa using hdr, rfl, dr2⟩
            | nil =>
              have c2 : wr.cell? ⟨w1.heap.size, 2, none⟩ = some (.int .i64 0) := by rw [cell_of hQ 2]; simp [qput]
              obtain ⟨lv', WN0⟩ := MID.out _ _ dr
              have e0 : done = (vB j ++ [(t : Int) * 100]) ++ vT t c := by simpa using hdr
              rw [e0] at WN0
              have WN := hid WN0
              clear dr WN0 hQ
              go_wp2
              go_loopw [32, 37] (fun s32 i wr => ∃ (n : Nat), n ≤ c ∧ i = .int .i64 (n + 1) ∧ Wn B D lv' s32 ((vB j ++ [(t : Int) * 100]) ++ vT t c) ((vB j ++ [(t : Int) * 100]) ++ vT t n) w0 wr) (fun _ i _ => tc - (intOf i).toNat)
              case atStart => exact ⟨0, Nat.zero_le _, rfl, by simpa [vT] using WN.out⟩
              case round =>
                obtain ⟨n, hn, rfl, hwn⟩ := hrel
                clear WN
                by_cases hlt : n < c
                · obtain ⟨ys, hys⟩ : ∃ ys, ys = (vB j ++ [(t : Int) * 100]) ++ vT t n := ⟨_, rfl⟩
                  rw [← hys] at hwn
                  have WN := hid hwn
                  have OWN := hid hwn.want
                  have hDr := hwn.hD
                  have hl8 : ys.length ≤ 100 := by rw [hys]; have := HC.out; simp [vB_len, vT_len]; omega
                  have HY := hid hys
                  clear hys
                  have l1 : (n : Int) + 1 < (tc : Int) := by have := HC.out; omega
                  have l2 : n < 20 := by have := HC.out; omega
                  clear hwn
                  go_wp2_with (at_builtin; (refine wpList_append_lies _ rfl _ _ 23 rfl D 3 i0 (.int .i64 0) 1 8 Yba.underlying23 hi hz0 hz1 hz2 rfl (by decide) _ _ _ rfl (OWN.out.alloc _) ⟨wr.heap.size, 0, none⟩ 1 1 [.int .i64 ((t : Int) * 100 + ((n : Int) + 1))] rfl rfl (cell_one_new _ _ _) (ints_oneCell .i64 [_]) (by omega) (by unfold maxLen; omega) (by omega) (by simp; omega) _ rfl ?_); intro g cap w5 hown hgr hg hlt2)
                  have NX0 := (WN.out.step hown hgr hg).1
                  have hy2 : ys ++ [(t : Int) * 100 + ((n : Int) + 1)] = (vB j ++ [(t : Int) * 100]) ++ vT t (n + 1) := by rw [HY.out, List.append_assoc _ (vT t n), ← vT_succ]
                  rw [hy2] at NX0
                  clear hy2
                  have NX := hid NX0
                  clear hown hgr hg NX0
                  go_roundw
                  case rel => exact ⟨n + 1, by omega, by go_num, NX.out⟩
                  case measure => simp [intOf]; omega
                · obtain rfl : n = c := by omega
                  have l1 : ¬ (n : Int) + 1 < (tc : Int) := by have := HC.out; omega
                  have FIN : Hid (Ends B D lv' u32 xt w0 wr) := by
                    show Ends B D lv' u32 xt w0 wr
                    rw [EXT.out]
                    exact hwn.ends
                  clear hwn
                  go_wp2
                  go_meet
                  case rel => exact ⟨_, FIN.out⟩
        · have FIN : Hid (Ends B D lv u32 xt w0 wr) := by
            have e : xt = vB j := HXT.out
            rw [e]
            exact ST.out.wn.ends
          clear ST
          go_wp2
          go_meet
          case rel => exact ⟨_, FIN.out⟩
      case rest =>
        obtain ⟨lv', hE⟩ := hcut
        go_step
        refine tail_end B D lv' _ xt w0 wc ?_ hB hE
        exact XL.out
end Go.Proofs.Ybulkbjau
