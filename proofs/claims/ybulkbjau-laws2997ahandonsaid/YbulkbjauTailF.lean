import Derived.Test.YbulkbjauTailE
/-! LawS2997AHandOn: what finish has left. -/
namespace Go.Proofs.Ybulkbjau
open Go.RowKit Go.MuLone
set_option linter.unusedVariables false
attribute [local go_sem ↓] Go.wp_at_zero Go.wp_at_succ

set_option maxRecDepth 100000 in
set_option maxHeartbeats 4000000 in
theorem tail_zero (B N n np t tc sz : Nat) (held held' : Int) (hd : Bool) (cnt : Nat → Nat) (vsB : List Int) (vsQ : Option (List Int)) (w0 w : World) (hB : w0.heap.size = B) (hn : n ≤ 1024) (hnp4 : np < 4) (ht : t ≤ n) (htc20 : tc < 20) (hway : Way n np t tc held sz held' vsB vsQ) (hhd : hd = decide (0 < tc))
    (hh : -9223372036854775808 ≤ held ∧ held ≤ 9223372036854775807) (haf : Af B (B + 1) (N + 1) N n sz held' cnt t vsB vsQ w) (hb : Below B w0 w)
    {u0 u1 u3 u4 u5 u6 u7 u8 u13 u15 u16 u17 u18 u21 u22 u23 u25 u26 u27 u28 u29 u30 u31 u32 u33 u34 u35 u36 u37 u38 u39 u40 u41 u42 u43 u44 u45 u46 u47 u48 u49 u50 u51 u52 u53 u54 u55 u56 u57 u58 u59 u60 u61 u62 u63 u64 u65 u66 u67 u68 u69 u70 u71 u72 u73 u74 u75 u76 u77 u78 u79 u80 u81 u82 u83 u84 u85 u86 u87 u88 u89 u90 u91 u92 u93 u94 u95 u96 u97 u98 u99 u100 u101 u102 u103 u104 u105 u106 u107 u108 u109 u110 u111 u112 u113 u114 u115 u116 u117 u118 u119 u120 u121 u122 u123 u124 u125 u126 u127 u128 u129 u130 u131 u132 u133 u134 u135 u136 u137 u138 u139 u140 u141 u142 u143 u144 u145 u146 u147 u148 u149 u150 u151 u152 u153 u154 u155 u156 u157 u158 u159 u160 u161 u162 u163 u164 u165 u166 u167 u168 u169 u170 u171 u172 u173 u174 u175 u176 u177 u178 u179 u180 u181 u182 u183 u184 u185 u186 u187 u188 u189 u190 u191 u192 u193 u194 u195 u196 u197 u198 u199 u200 u201 u202 u203 u204 u205 u206 u207 u208 u209 u210 u211 u212 u213 u214 u215 u216 u217 u218 u219 u220 u221 u222 u223 u224 u225 u226 u227 u228 u229 u230 u231 u232 u233 u234 u235 u236 u237 u238 u239 u240 u241 u242 u243 u244 u245 u246 u247 u248 u249 u250 u251 u252 u253 u254 u255 u256 u257 u258 u259 u260 u261 u262 u263 u264 u265 u266 u267 u268 u269 u270 u271 u272 u273 u274 u275 u276 u277 u278 u279 u280 u281 u282 u283 u284 u285 u286 u287 u288 u289 u290 u291 u292 u293 u294 u295 u296 u297 u298 u299 u300 u301 u302 u303 u304 u305 u306 u307 u308 u309 u310 u311 u312 u313 u314 u315 u316 u317 u318 u319 u320 u321 u322 u323 u324 u325 u326 u327 u328 : Value} :
    (textFrom Yba.f3 19).wp Yba.prog (bodyPost Yba.prog Yba.f3 fun e w' => e = .returned (.bool true) ∧ Below w0.heap.size w0 w') { tmps := #[u0, u1, .int .i64 held, u3, u4, u5, u6, u7, u8, .int .i64 n, .pointer (some ⟨B, 0, none⟩), .pointer (some ⟨B + 1, 0, none⟩), .int .i64 np, u13, .pointer (some ⟨N + 1, 0, none⟩), u15, u16, u17, u18, .int .i64 t, .int .i64 tc, u21, u22, u23, .bool hd, u25, u26, u27, u28, u29, u30, u31, u32, u33, u34, u35, u36, u37, u38, u39, u40, u41, u42, u43, u44, u45, u46, u47, u48, u49, u50, u51, u52, u53, u54, u55, u56, u57, u58, u59, u60, u61, u62, u63, u64, u65, u66, u67, u68, u69, u70, u71, u72, u73, u74, u75, u76, u77, u78, u79, u80, u81, u82, u83, u84, u85, u86, u87, u88, u89, u90, u91, u92, u93, u94, u95, u96, u97, u98, u99, u100, u101, u102, u103, u104, u105, u106, u107, u108, u109, u110, u111, u112, u113, u114, u115, u116, u117, u118, u119, u120, u121, u122, u123, u124, u125, u126, u127, u128, u129, u130, u131, u132, u133, u134, u135, u136, u137, u138, u139, u140, u141, u142, u143, u144, u145, u146, u147, u148, u149, u150, u151, u152, u153, u154, u155, u156, u157, u158, u159, u160, u161, u162, u163, u164, u165, u166, u167, u168, u169, u170, u171, u172, u173, u174, u175, u176, u177, u178, u179, u180, u181, u182, u183, u184, u185, u186, u187, u188, u189, u190, u191, u192, u193, u194, u195, u196, u197, u198, u199, u200, u201, u202, u203, u204, u205, u206, u207, u208, u209, u210, u211, u212, u213, u214, u215, u216, u217, u218, u219, u220, u221, u222, u223, u224, u225, u226, u227, u228, u229, u230, u231, u232, u233, u234, u235, u236, u237, u238, u239, u240, u241, u242, u243, u244, u245, u246, u247, u248, u249, u250, u251, u252, u253, u254, u255, u256, u257, u258, u259, u260, u261, u262, u263, u264, u265, u266, u267, u268, u269, u270, u271, u272, u273, u274, u275, u276, u277, u278, u279, u280, u281, u282, u283, u284, u285, u286, u287, u288, u289, u290, u291, u292, u293, u294, u295, u296, u297, u298, u299, u300, u301, u302, u303, u304, u305, u306, u307, u308, u309, u310, u311, u312, u313, u314, u315, u316, u317, u318, u319, u320, u321, u322, u323, u324, u325, u326, u327, u328], defers := [] } w := by
  have AF := hid haf
  have BE := hid hb
  have WAY2 : Hid (Way2 np t tc hd vsB vsQ) := hhd ▸ hway.two
  have WAY := hid hway
  have HHD := hid hhd
  have HTC := hid htc20
  have hBr : B ≤ w.heap.size := Nat.le_of_lt (lt_of_block haf.log)
  clear haf hb hway hhd htc20
  generalize hQ : bodyPost Yba.prog Yba.f3 _ = Q
  unfold textFrom Yba.f3
  simp only [Option.getD, after]
  subst hQ
  go_upto_if 162 with fail
  go_cut [] (fun wx => Af B (B + 1) (N + 1) N n sz held' cnt t vsB vsQ wx ∧ Below B w0 wx)
  case rest =>
    obtain ⟨o1, o2⟩ := hcut
    go_step
    exact tail_one B N n np t tc sz held' hd cnt vsB vsQ w0 wc hB hnp4 (by omega) HTC.out WAY2.out o1 o2
  case first =>
    have hway := WAY.out
    clear WAY
    obtain ⟨rB, f, ⟨psB, hrB, htB, hpB⟩, hmap, hothers, hleft, _⟩ := AF.out.rest
    have m1 : w.cell? ⟨N + 1, 1, none⟩ = some (.map (some N)) := cell_of AF.out.kd 1
    have LK := hmap.look_ok t (by omega)
    rcases hway with ⟨c, hc, htl, rfl, rfl, rfl, rfl⟩ | ⟨h0, rfl, rfl, rfl, rfl⟩
    ·
      obtain ⟨r, h', ps, hft, hr, htk, hsep⟩ := hleft
      obtain ⟨sa, sl, sc, rfl⟩ := hr.shape
      rw [hft] at LK
      simp only [Option.getD, Option.isSome, vT_len] at LK
      obtain ⟨V, hV⟩ : ∃ V, w.alloc (.cells #[.slice sa sl sc, .int .i64 (h' : Nat), .int .i64 c] 39) = V := ⟨_, rfl⟩
      have FV : Fr (fun _ => False) w V := hV ▸ (Fr.refl _ w).alloc _
      have AV := AF.out.keep FV
      have BV : Below B w0 V := below_fr BE.out hBr FV (fun _ h => h.elim)
      have hpV := (FV.block _ (lt_of_block hpB) (fun h => h)).trans hpB
      have LEN := (hmap.keep FV (fun h => h)).len 3
      have v1 : V.cell? ⟨N + 1, 1, none⟩ = some (.map (some N)) := cell_of AV.kd 1
      have v2 : V.cell? ⟨w.heap.size, 2, none⟩ = some (.int .i64 c) := by rw [← hV]; exact cell_of (Go.heap_alloc_new _ _) 2
      have v13 : V.cell? ⟨B + 1, 13, none⟩ = some (.int .i64 (wrap64 (held - 1))) := cell_of hpV 13
      have v12 : V.cell? ⟨B + 1, 12, none⟩ = some (.int .i64 (np + 1)) := by rw [cell_of hpV 12]; simp [PA, vB_len]
      have t1 : hd = true := by rw [HHD.out]; simp; omega
      have t2 : (tc : Int) - 1 = c := by omega
      have t3 : wrap64 (c : Int) = c := w64_small c (by have := HTC.out; omega)
      have DONE := hid (And.intro AV BV)
      clear hmap hothers hr htk hsep hrB htB hpB hpV AV BV FV hft AF BE hc HHD
      subst t1
      go_wp2
      go_meet
      case rel => exact DONE.out
    ·
      have hft : f t = none := hleft
      rw [hft] at LK
      simp only [Option.getD, Option.isSome, q0] at LK
      obtain ⟨V, hV⟩ : ∃ V, w.alloc (.cells #[.slice none 0 0, .int .i64 0, .int .i64 0] 39) = V := ⟨_, rfl⟩
      have FV : Fr (fun _ => False) w V := hV ▸ (Fr.refl _ w).alloc _
      have AV := AF.out.keep FV
      have BV : Below B w0 V := below_fr BE.out hBr FV (fun _ h => h.elim)
      have hpV := (FV.block _ (lt_of_block hpB) (fun h => h)).trans hpB
      have LEN := (hmap.keep FV (fun h => h)).len 3
      have v1 : V.cell? ⟨N + 1, 1, none⟩ = some (.map (some N)) := cell_of AV.kd 1
      have v13 : V.cell? ⟨B + 1, 13, none⟩ = some (.int .i64 held) := cell_of hpV 13
      have v12 : V.cell? ⟨B + 1, 12, none⟩ = some (.int .i64 np) := by rw [cell_of hpV 12]; simp [PA, vB_len]
      have t1 : hd = false := by rw [HHD.out]; simp; omega
      have DONE := hid (And.intro AV BV)
      clear hmap hothers hrB htB hpB hpV AV BV FV hft hleft AF BE HHD h0
      subst hV
      subst t1
      by_cases htl : t < n
      · have e3 : (if t < n then n - 1 else n) = n - 1 := if_pos htl
        have e4 : ((n - 1 : Nat) : Int) = (n : Int) - 1 := by omega
        rw [e3, e4] at LEN
        clear e3 e4
        go_wp2
        go_meet
        case rel => exact DONE.out
      · have e3 : (if t < n then n - 1 else n) = n := if_neg htl
        rw [e3] at LEN
        clear e3
        go_wp2
        go_meet
        case rel => exact DONE.out
end Go.Proofs.Ybulkbjau
