import Derived.Test.YbulkbjauLawD
import Derived.Deep.Cut
import Derived.Deep.DeepCutAuto
/-! LawS2997AHandOn: its last statements: the log against the list that is wanted. -/
namespace Go.Proofs.Ybulkbjau
open Go.RowKit Go.MuLone
set_option linter.unusedVariables false
attribute [local go_sem ↓] Go.wp_at_zero Go.wp_at_succ

/-- The code behind the first n statements. -/
def after : Nat → Code → Code
  | 0, c => c
  | n + 1, .seq _ b => after n b
  | _ + 1, _ => .skip
/-- A function's text behind its first n statements. -/
def textFrom (f : Func) (n : Nat) : Code := after n (f.body.getD .skip)

theorem idx23 {a0 : Option Addr} {ad : Addr} {len cap k : Nat} (ha : a0 = some ad) (h : k < len) (w : World) :
    (Instr.indexAt 23 (.slice a0 len cap) (.int .i64 k)).run Yba.prog w = .ok (.pointer (some (ad.add k))) w := by
  subst ha
  have h1 : (0 : Int) ≤ (k : Int) ∧ (k : Int) < (len : Int) := by omega
  simp [Instr.indexAt, asIntOf, run_underlying Yba.underlying23, h1]
  intro h
  omega

theorem own_read {D n : Nat} {v : Value} {xs : List Value} {w : World} (h : w.ownsRow D 3 1 v n xs) : ∃ a cap, v = .slice a n cap ∧ ∀ i, i < n → ∃ ad, a = some ad ∧ w.cell? (ad.add i) = xs[i]? := by
  rcases h with ⟨hl, ⟨rfl, rfl⟩ | ⟨g, cap, cur, rfl, hg, hb, hc, hm, hs, ht⟩⟩
  · exact ⟨none, 0, rfl, fun i hi => by omega⟩
  · refine ⟨_, cap, rfl, fun i hi => ⟨_, rfl, ?_⟩⟩
    have q : w.ownsRow D 3 1 (.slice (some ⟨g, 0, none⟩) n cap) n xs := ⟨hl, .inr ⟨g, cap, cur, rfl, hg, hb, hc, hm, hs, ht⟩⟩
    have hi' : i < xs.length := by omega
    rw [List.getElem?_eq_getElem hi']
    exact q.cells (g := g) rfl i _ (List.getElem?_eq_getElem hi')

/-- At the end: the log's row and the wanted row hold the same numbers. -/
structure Ends (B D : Nat) (lv wv : Value) (xs : List Int) (w0 wr : World) : Prop where
  log : wr.heap[B]? = some (.cells #[lv] 23 (0, 0))
  own : wr.ownsRow D 3 1 lv xs.length (xs.map (Value.int .i64))
  want : wr.ownsRow D 3 1 wv xs.length (xs.map (Value.int .i64))
  bel : Below B w0 wr
theorem Ends.drewN {B D : Nat} {lv wv : Value} {xs : List Int} {w0 wr : World} (h : Ends B D lv wv xs w0 wr) (n : Nat) : Ends B D lv wv xs w0 (wr.drewN n) :=
  ⟨h.log, h.own, h.want, ⟨h.bel.os, h.bel.tape, h.bel.output, h.bel.size, h.bel.block⟩⟩

set_option maxRecDepth 100000 in
set_option maxHeartbeats 4000000 in
theorem tail_end (B D : Nat) (lv wv : Value) (xs : List Int) (w0 w : World) (hx : xs.length ≤ 1000) (hB : w0.heap.size = B) (h : Ends B D lv wv xs w0 w)
    {u0 u1 u2 u3 u4 u5 u6 u7 u8 u9 u11 u12 u13 u14 u15 u16 u17 u18 u19 u20 u21 u22 u23 u24 u25 u26 u27 u28 u29 u30 u31 u33 u34 u35 u36 u37 u38 u39 u40 u41 u42 u43 u44 u45 u46 u47 u48 u49 u50 u51 u52 u53 u54 u55 u56 u57 u58 u59 u60 u61 u62 u63 u64 u65 u66 u67 u68 u69 u70 u71 u72 u73 u74 u75 u76 u77 u78 u79 u80 u81 u82 u83 u84 u85 u86 u87 u88 u89 u90 u91 u92 u93 u94 u95 u96 u97 u98 u99 u100 u101 u102 u103 u104 u105 u106 u107 u108 u109 u110 u111 u112 u113 u114 u115 u116 u117 u118 u119 u120 u121 u122 u123 u124 u125 u126 u127 u128 u129 u130 u131 u132 u133 u134 u135 u136 u137 u138 u139 u140 u141 u142 u143 u144 u145 u146 u147 u148 u149 u150 u151 u152 u153 u154 u155 u156 u157 u158 u159 u160 u161 u162 u163 u164 u165 u166 u167 u168 u169 u170 u171 u172 u173 u174 u175 u176 u177 u178 u179 u180 u181 u182 u183 u184 u185 u186 u187 u188 u189 u190 u191 u192 u193 u194 u195 u196 u197 u198 u199 u200 u201 u202 u203 u204 u205 u206 u207 u208 u209 u210 u211 u212 u213 u214 u215 u216 u217 u218 u219 u220 u221 u222 u223 u224 u225 u226 u227 u228 u229 u230 u231 u232 u233 u234 u235 u236 u237 u238 u239 u240 u241 u242 u243 u244 u245 u246 u247 u248 u249 u250 u251 u252 u253 u254 u255 u256 u257 u258 u259 u260 u261 u262 u263 u264 u265 u266 u267 u268 u269 u270 u271 u272 u273 u274 u275 u276 u277 u278 u279 u280 u281 u282 u283 u284 u285 u286 u287 u288 u289 u290 u291 u292 u293 u294 u295 u296 u297 u298 u299 u300 u301 u302 u303 u304 u305 u306 u307 u308 u309 u310 u311 u312 u313 u314 u315 u316 u317 u318 u319 u320 u321 u322 u323 u324 u325 u326 u327 u328 : Value} :
    (textFrom Yba.f3 24).wp Yba.prog (bodyPost Yba.prog Yba.f3 fun e w' => e = .returned (.bool true) ∧ Below w0.heap.size w0 w') { tmps := #[u0, u1, u2, u3, u4, u5, u6, u7, u8, u9, .pointer (some ⟨B, 0, none⟩), u11, u12, u13, u14, u15, u16, u17, u18, u19, u20, u21, u22, u23, u24, u25, u26, u27, u28, u29, u30, u31, wv, u33, u34, u35, u36, u37, u38, u39, u40, u41, u42, u43, u44, u45, u46, u47, u48, u49, u50, u51, u52, u53, u54, u55, u56, u57, u58, u59, u60, u61, u62, u63, u64, u65, u66, u67, u68, u69, u70, u71, u72, u73, u74, u75, u76, u77, u78, u79, u80, u81, u82, u83, u84, u85, u86, u87, u88, u89, u90, u91, u92, u93, u94, u95, u96, u97, u98, u99, u100, u101, u102, u103, u104, u105, u106, u107, u108, u109, u110, u111, u112, u113, u114, u115, u116, u117, u118, u119, u120, u121, u122, u123, u124, u125, u126, u127, u128, u129, u130, u131, u132, u133, u134, u135, u136, u137, u138, u139, u140, u141, u142, u143, u144, u145, u146, u147, u148, u149, u150, u151, u152, u153, u154, u155, u156, u157, u158, u159, u160, u161, u162, u163, u164, u165, u166, u167, u168, u169, u170, u171, u172, u173, u174, u175, u176, u177, u178, u179, u180, u181, u182, u183, u184, u185, u186, u187, u188, u189, u190, u191, u192, u193, u194, u195, u196, u197, u198, u199, u200, u201, u202, u203, u204, u205, u206, u207, u208, u209, u210, u211, u212, u213, u214, u215, u216, u217, u218, u219, u220, u221, u222, u223, u224, u225, u226, u227, u228, u229, u230, u231, u232, u233, u234, u235, u236, u237, u238, u239, u240, u241, u242, u243, u244, u245, u246, u247, u248, u249, u250, u251, u252, u253, u254, u255, u256, u257, u258, u259, u260, u261, u262, u263, u264, u265, u266, u267, u268, u269, u270, u271, u272, u273, u274, u275, u276, u277, u278, u279, u280, u281, u282, u283, u284, u285, u286, u287, u288, u289, u290, u291, u292, u293, u294, u295, u296, u297, u298, u299, u300, u301, u302, u303, u304, u305, u306, u307, u308, u309, u310, u311, u312, u313, u314, u315, u316, u317, u318, u319, u320, u321, u322, u323, u324, u325, u326, u327, u328], defers := [] } w := by
  unfold textFrom Yba.f3
  simp only [Option.getD, after]
  have hl0 := own_read h.own
  have hw0 := own_read h.want
  obtain ⟨la, lc, rfl, _⟩ := hl0
  obtain ⟨wa, wc, rfl, _⟩ := hw0
  have c0 : w.cell? ⟨B, 0, none⟩ = some (.slice la xs.length lc) := cell_of h.log 0
  have ST := hid h
  obtain ⟨n, hn⟩ : ∃ n, xs.length = n := ⟨_, rfl⟩
  rw [hn] at hx c0 ⊢
  clear h
  go_wp2
  go_loopw [38] (fun i wr => ∃ (k : Nat), k ≤ n ∧ i = .int .i64 k ∧ Ends B D (.slice la n lc) (.slice wa n wc) xs w0 wr) (fun i _ => n - (intOf i).toNat)
  case atStart => exact ⟨0, Nat.zero_le _, rfl, hn ▸ ST.out⟩
  case round =>
    obtain ⟨k, hk, rfl, hst⟩ := hrel
    clear ST c0
    by_cases hlt : k < n
    · obtain ⟨la', lc', e1, r1⟩ := own_read hst.own
      obtain ⟨wa', wc', e2, r2⟩ := own_read hst.want
      simp only [Value.slice.injEq] at e1 e2
      obtain ⟨rfl, -, rfl⟩ := e1
      obtain ⟨rfl, -, rfl⟩ := e2
      obtain ⟨ad, ha, hc⟩ := r1 k (by omega)
      obtain ⟨ad', ha', hc'⟩ := r2 k (by omega)
      obtain ⟨x, hx1⟩ : ∃ x, xs[k]? = some x := ⟨xs[k]'(by omega), List.getElem?_eq_getElem (by omega)⟩
      rw [List.getElem?_map, hx1] at hc hc'
      simp only [Option.map] at hc hc'
      have i1 : ∀ W : World, (Instr.indexAt 23 (.slice la n lc) (.int .i64 k)).run Yba.prog W = .ok (.pointer (some (ad.add k))) W := fun W => idx23 ha hlt W
      have i2 : ∀ W : World, (Instr.indexAt 23 (.slice wa n wc) (.int .i64 k)).run Yba.prog W = .ok (.pointer (some (ad'.add k))) W := fun W => idx23 ha' hlt W
      have c0 : wr.cell? ⟨B, 0, none⟩ = some (.slice la n lc) := cell_of hst.log 0
      have ST := hid hst
      clear hst r1 r2 ha ha'
      go_wp2
      go_quiet (fail)
      go_wp2
      go_roundw
      case rel => exact ⟨k + 1, by omega, by go_num, ST.out.drewN _⟩
      case measure => simp [intOf]; omega
    · obtain rfl : k = n := by omega
      have BEL := hid hst.bel
      clear hst
      go_wp2
      go_ret
      refine ⟨rfl, ?_⟩
      rw [hB]
      exact BEL.out
end Go.Proofs.Ybulkbjau
