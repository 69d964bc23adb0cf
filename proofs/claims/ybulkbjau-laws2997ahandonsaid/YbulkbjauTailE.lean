import Derived.Test.YbulkbjauTailD
import Derived.Deep.CutBlock
/-! LawS2997AHandOn: the backlog is drained. -/
namespace Go.Proofs.Ybulkbjau
open Go.RowKit Go.MuLone
set_option linter.unusedVariables false
attribute [local go_sem ↓] Go.wp_at_zero Go.wp_at_succ

theorem Way.two {len np t tc sz : Nat} {held held' : Int} {vsB : List Int} {vsQ : Option (List Int)} (h : Way len np t tc held sz held' vsB vsQ) : Way2 np t tc (decide (0 < tc)) vsB vsQ := by
  rcases h with ⟨c, hc, _, _, _, h1, h2⟩ | ⟨h0, _, _, h1, h2⟩
  · exact .inl ⟨c, hc, by simp; omega, h1, h2⟩
  · exact .inr ⟨h0, by simp; omega, h1, h2⟩
theorem Way2.len {np t tc : Nat} {hd : Bool} {xs : List Int} {vsQ : Option (List Int)} (h : Way2 np t tc hd xs vsQ) : xs.length ≤ np + 1 := by
  rcases h with ⟨c, _, _, rfl, _⟩ | ⟨_, _, rfl, _⟩
  · simp [vB_len]
  · simp [vB_len]

/-- Behind the draining. -/
def One (B D N t : Nat) (m : Int) (xs : List Int) (vsQ : Option (List Int)) (w0 w : World) : Prop :=
  ∃ lv, w.heap[B]? = some (.cells #[lv] 23 (0, 0)) ∧ w.ownsRow D 3 1 lv xs.length (xs.map (Value.int .i64)) ∧ Below B w0 w ∧ w.heap[N + 1]? = some (.cells #[.pointer (some ⟨B + 1, 0, none⟩), .map (some N), .int .i64 m] 52 (0, 0)) ∧ Kept B D N t vsQ w ∧ D ≤ w.heap.size

theorem one_start {B N n sz t : Nat} {held : Int} {cnt : Nat → Nat} {vsB : List Int} {vsQ : Option (List Int)} {w0 w : World} (h : Af B (B + 1) (N + 1) N n sz held cnt t vsB vsQ w) (hb : Below B w0 w) :
    ∃ rB, Dr B w.heap.size (B + 1) 10 45 (PA 0 rB 0 vsB.length held) rB (.slice none 0 0) w [] vsB w ∧
      ∀ done wq, Dr B w.heap.size (B + 1) 10 45 (PA 0 rB 0 vsB.length held) rB (.slice none 0 0) w done [] wq → One B w.heap.size N t n done vsQ w0 wq := by
  obtain ⟨h1, h2, rB, f, ⟨psB, b1, b2, b3⟩, h4, h5, h6, h7⟩ := h
  have lB := lt_of_block h1
  refine ⟨rB, ⟨Fr.refl _ _, ⟨_, h1, World.ownsRow_nil _ _ _ _, .inl rfl⟩, rB, 0, psB, ?_, b1, b2, Tasks.lt _ _ b2, .inl rfl⟩, ?_⟩
  · rw [PA_qput]; exact b3
  · rintro done wq ⟨fr, ⟨lv, l1, l2, l3⟩, _⟩
    have nS : ∀ (b : Nat) (A : Array Value) (T : TypeId), w.heap[b]? = some (.cells A T (0, 0)) → T ≠ 45 → T ≠ 23 → T ≠ 1 → ¬ (b = B + 1 ∨ b = B ∨ rB.ownBlock = some b ∨ (Value.slice none 0 0).ownBlock = some b) := by
      rintro b A T hA t1 t2 t3 (e | e | e | e)
      · exact ne_ty hA b3 t1 e
      · exact ne_ty hA h1 t2 e
      · exact b1.ne hA t3 e
      · simp [Value.ownBlock] at e
    have nb : NoBox (fun k => k = B + 1 ∨ k = B ∨ rB.ownBlock = some k ∨ (Value.slice none 0 0).ownBlock = some k) w :=
      (noBox_cells b3 (by decide) (by decide)).or ((noBox_cells h1 (by decide) (by decide)).or ((noBox_ring b1).or (fun k hk => by simp [Value.ownBlock] at hk)))
    refine ⟨lv, l1, l2, below_fr hb (by omega) fr ?_, (fr.block _ (lt_of_block h2) (nS _ _ _ h2 (by decide) (by decide) (by decide))).trans h2, ?_, fr.size⟩
    · rintro k (e | e | e | e)
      · omega
      · omega
      · exact h7 k e
      · simp [Value.ownBlock] at e
    · cases vsQ with
      | none => trivial
      | some vs =>
        obtain ⟨r, h, ps, g1, g2, g3, g4⟩ := h6
        refine ⟨sz, f, r, h, ps, h4.keep fr ?_, g1, g2.keep fr ?_, Tasks.keep fr nb _ _ g3, Tasks.lt _ _ g3, fun b hb => (g4 b hb).2⟩
        · rintro (e | e | e | e)
          · exact ne_map b3 h4 e.symm
          · exact ne_map h1 h4 e.symm
          · exact b1.neMap h4 e
          · simp [Value.ownBlock] at e
        · rintro b hrb (e | e | e | e)
          · exact g2.ne b3 (by decide) (e ▸ hrb)
          · exact g2.ne h1 (by decide) (e ▸ hrb)
          · exact (g4 b hrb).1 e
          · simp [Value.ownBlock] at e

set_option maxRecDepth 100000 in
set_option maxHeartbeats 4000000 in
theorem tail_one (B N n np t tc sz : Nat) (held : Int) (hd : Bool) (cnt : Nat → Nat) (vsB : List Int) (vsQ : Option (List Int)) (w0 w : World) (hB : w0.heap.size = B) (hnp4 : np < 4) (ht : t ≤ 1024) (htc20 : tc < 20) (hway : Way2 np t tc hd vsB vsQ)
    (haf : Af B (B + 1) (N + 1) N n sz held cnt t vsB vsQ w) (hb : Below B w0 w)
    {u0 u1 u2 u3 u4 u5 u6 u7 u8 u9 u13 u15 u16 u17 u18 u21 u22 u23 u25 u26 u27 u28 u29 u30 u31 u32 u33 u34 u35 u36 u37 u38 u39 u40 u41 u42 u43 u44 u45 u46 u47 u48 u49 u50 u51 u52 u53 u54 u55 u56 u57 u58 u59 u60 u61 u62 u63 u64 u65 u66 u67 u68 u69 u70 u71 u72 u73 u74 u75 u76 u77 u78 u79 u80 u81 u82 u83 u84 u85 u86 u87 u88 u89 u90 u91 u92 u93 u94 u95 u96 u97 u98 u99 u100 u101 u102 u103 u104 u105 u106 u107 u108 u109 u110 u111 u112 u113 u114 u115 u116 u117 u118 u119 u120 u121 u122 u123 u124 u125 u126 u127 u128 u129 u130 u131 u132 u133 u134 u135 u136 u137 u138 u139 u140 u141 u142 u143 u144 u145 u146 u147 u148 u149 u150 u151 u152 u153 u154 u155 u156 u157 u158 u159 u160 u161 u162 u163 u164 u165 u166 u167 u168 u169 u170 u171 u172 u173 u174 u175 u176 u177 u178 u179 u180 u181 u182 u183 u184 u185 u186 u187 u188 u189 u190 u191 u192 u193 u194 u195 u196 u197 u198 u199 u200 u201 u202 u203 u204 u205 u206 u207 u208 u209 u210 u211 u212 u213 u214 u215 u216 u217 u218 u219 u220 u221 u222 u223 u224 u225 u226 u227 u228 u229 u230 u231 u232 u233 u234 u235 u236 u237 u238 u239 u240 u241 u242 u243 u244 u245 u246 u247 u248 u249 u250 u251 u252 u253 u254 u255 u256 u257 u258 u259 u260 u261 u262 u263 u264 u265 u266 u267 u268 u269 u270 u271 u272 u273 u274 u275 u276 u277 u278 u279 u280 u281 u282 u283 u284 u285 u286 u287 u288 u289 u290 u291 u292 u293 u294 u295 u296 u297 u298 u299 u300 u301 u302 u303 u304 u305 u306 u307 u308 u309 u310 u311 u312 u313 u314 u315 u316 u317 u318 u319 u320 u321 u322 u323 u324 u325 u326 u327 u328 : Value} :
    (textFrom Yba.f3 20).wp Yba.prog (bodyPost Yba.prog Yba.f3 fun e w' => e = .returned (.bool true) ∧ Below w0.heap.size w0 w') { tmps := #[u0, u1, u2, u3, u4, u5, u6, u7, u8, u9, .pointer (some ⟨B, 0, none⟩), .pointer (some ⟨B + 1, 0, none⟩), .int .i64 np, u13, .pointer (some ⟨N + 1, 0, none⟩), u15, u16, u17, u18, .int .i64 t, .int .i64 tc, u21, u22, u23, .bool hd, u25, u26, u27, u28, u29, u30, u31, u32, u33, u34, u35, u36, u37, u38, u39, u40, u41, u42, u43, u44, u45, u46, u47, u48, u49, u50, u51, u52, u53, u54, u55, u56, u57, u58, u59, u60, u61, u62, u63, u64, u65, u66, u67, u68, u69, u70, u71, u72, u73, u74, u75, u76, u77, u78, u79, u80, u81, u82, u83, u84, u85, u86, u87, u88, u89, u90, u91, u92, u93, u94, u95, u96, u97, u98, u99, u100, u101, u102, u103, u104, u105, u106, u107, u108, u109, u110, u111, u112, u113, u114, u115, u116, u117, u118, u119, u120, u121, u122, u123, u124, u125, u126, u127, u128, u129, u130, u131, u132, u133, u134, u135, u136, u137, u138, u139, u140, u141, u142, u143, u144, u145, u146, u147, u148, u149, u150, u151, u152, u153, u154, u155, u156, u157, u158, u159, u160, u161, u162, u163, u164, u165, u166, u167, u168, u169, u170, u171, u172, u173, u174, u175, u176, u177, u178, u179, u180, u181, u182, u183, u184, u185, u186, u187, u188, u189, u190, u191, u192, u193, u194, u195, u196, u197, u198, u199, u200, u201, u202, u203, u204, u205, u206, u207, u208, u209, u210, u211, u212, u213, u214, u215, u216, u217, u218, u219, u220, u221, u222, u223, u224, u225, u226, u227, u228, u229, u230, u231, u232, u233, u234, u235, u236, u237, u238, u239, u240, u241, u242, u243, u244, u245, u246, u247, u248, u249, u250, u251, u252, u253, u254, u255, u256, u257, u258, u259, u260, u261, u262, u263, u264, u265, u266, u267, u268, u269, u270, u271, u272, u273, u274, u275, u276, u277, u278, u279, u280, u281, u282, u283, u284, u285, u286, u287, u288, u289, u290, u291, u292, u293, u294, u295, u296, u297, u298, u299, u300, u301, u302, u303, u304, u305, u306, u307, u308, u309, u310, u311, u312, u313, u314, u315, u316, u317, u318, u319, u320, u321, u322, u323, u324, u325, u326, u327, u328], defers := [] } w := by
  obtain ⟨rB, DR0, MID0⟩ := one_start haf hb
  have DR := hid DR0
  have MID := hid MID0
  have WAY := hid hway
  have hBD : B < w.heap.size := lt_of_block haf.log
  have hvl : vsB.length ≤ 5 := by have := hway.len; omega
  clear DR0 MID0 haf hb hway
  generalize hQ : bodyPost Yba.prog Yba.f3 _ = Q
  unfold textFrom Yba.f3
  simp only [Option.getD, after]
  subst hQ
  go_upto_block 8 with fail
  go_cut [] (fun wx => One B w.heap.size N t n vsB vsQ w0 wx)
  case first =>
    go_wp2_with fail
    go_loopg [] vsB.length (fun k wr => ∃ done rest, done ++ rest = vsB ∧ rest.length = k ∧ Dr B w.heap.size (B + 1) 10 45 (PA 0 rB 0 vsB.length held) rB (.slice none 0 0) w done rest wr)
    case atStart => exact ⟨[], vsB, rfl, rfl, DR.out⟩
    case round =>
      obtain ⟨done, rest, hdr, hrk, dr⟩ := hrel
      clear DR
      have hdl : done.length ≤ 1000 := by
        have := congrArg List.length hdr
        simp at this
        omega
      obtain ⟨rq, hq', psq, hQ, _, _, _, _⟩ := dr.q
      cases rest with
      | cons v vs =>
        have c2 : wr.cell? ⟨B + 1, 12, none⟩ = some (.int .i64 (vs.length + 1)) := by rw [PA_qput] at hQ; rw [cell_of hQ 12]; simp [PA]
        obtain ⟨p, POP0⟩ := drain_step dr (by simp [PA]) (by decide) hBD (Nat.le_refl _) hdl
        simp only [tk] at POP0
        have POP := hid POP0
        have EQ := eq_func_nil (.func 19) #[] #[.pointer (some ⟨p.1, 0, none⟩), .pointer (some ⟨p.2, 0, none⟩)]
        clear dr POP0 hQ
        go_wp2_with (first | (go_at_call 12; refine POP.out.mono ?_; rintro e w3 ⟨rfl, RUN0⟩; have RUN := hid RUN0; clear RUN0) | (go_at_call 19; refine RUN.out.mono ?_; rintro e w4 ⟨rfl, dr2⟩))
        go_roundg vs.length
        case measure => simp at hrk; omega
        case rel => exact ⟨done ++ [v], vs, by simpa using hdr, rfl, dr2⟩
      | nil =>
        have c2 : wr.cell? ⟨B + 1, 12, none⟩ = some (.int .i64 0) := by rw [PA_qput] at hQ; rw [cell_of hQ 12]; simp [PA]
        have e0 : done = vsB := by simpa using hdr
        have FIN0 := MID.out _ _ dr
        rw [e0] at FIN0
        have FIN := hid FIN0
        clear dr FIN0 hQ e0
        go_wp2
        go_meet
        case rel => exact FIN.out
  case rest =>
    obtain ⟨lv, o1, o2, o3, o4, o5, o6⟩ := hcut
    go_step
    exact tail_two B w.heap.size N np t tc n hd lv vsB vsQ w0 wc hB hBD o6 hnp4 ht htc20 WAY.out o1 o2 o3 o4 o5
end Go.Proofs.Ybulkbjau
