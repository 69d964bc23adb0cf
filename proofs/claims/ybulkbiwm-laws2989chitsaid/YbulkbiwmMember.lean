import Derived.Test.YbulkbiwmRows
import Derived.Test.YbulkbiwmPlainC
import Derived.WalkKit
import Derived.WalkSpells
import Derived.WalkLawsBesides
/-! The walk of memberName (function 10). -/
namespace Go.Proofs.Ybulkbiwm
open Go.RowKit PlainC

theorem hid {p : Prop} (h : p) : Hid p := h

theorem ret2 {x y : Int} {s t : ByteArray} (h : x = y) (k : s = t) : Ending.returned (.tuple #[.int .i64 x, .string s]) = .returned (.tuple #[.int .i64 y, .string t]) := by rw [h, k]

/-- What a slice of texts leads to: it is nil, or its cells lie behind an address. -/
def StrAt (w : World) (a : Option Addr) (c : Nat) (ss : List ByteArray) : Prop :=
  (a = none ∧ c = 0 ∧ ss = []) ∨ ∃ ad, a = some ad ∧ ∀ j, j < ss.length → w.cell? (ad.add j) = some (.string (ss.getD j ByteArray.empty))

theorem StrAt.plain {w : World} {a : Option Addr} {c : Nat} {ss : List ByteArray} (h : StrAt w a c ss) :
    ss.length ≤ 0 ∨ ∃ b off, a = some ⟨b, off, none⟩ ∧ ∀ j, j < ss.length → w.cell? ⟨b, off + j, none⟩ = some (.string (ss.getD j ByteArray.empty)) := by
  rcases h with ⟨_, _, rfl⟩ | ⟨ad, rfl, h⟩
  · exact .inl (by simp)
  · rcases Nat.eq_zero_or_pos ss.length with hz | hp
    · exact .inl (by omega)
    · right
      have h0 := h 0 hp
      obtain ⟨b, off, spot⟩ := ad
      cases spot with
      | none => exact ⟨b, off, rfl, fun j hj => by simpa [Addr.add_lit] using h j hj⟩
      | some q =>
        exfalso
        simp only [Addr.add, if_true] at h0
        unfold World.cell? at h0
        split at h0 <;> simp at h0

theorem StrAt.nil {w : World} {a : Option Addr} {c : Nat} {ss : List ByteArray} (h : StrAt w a c ss) : a = none → ss.length = 0 ∧ c = 0 := by
  intro e
  rcases h with ⟨_, hc, rfl⟩ | ⟨ad, ha, _⟩
  · exact ⟨rfl, hc⟩
  · rw [ha] at e
    cases e

theorem StrAt.src {w : World} {a : Option Addr} {c : Nat} {ss : List ByteArray} (h : StrAt w a c ss) : ∀ ad, a = some ad → ∀ j u, (ss.map Value.string)[j]? = some u → w.cell? (ad.add j) = some u := by
  intro ad hq j u hu
  rcases h with ⟨ha, _, _⟩ | ⟨ad', ha, h⟩
  · rw [ha] at hq
    cases hq
  · rw [ha] at hq
    obtain rfl := Option.some.inj hq
    have hj : j < ss.length := by simpa using (List.getElem?_eq_some_iff.1 hu).1
    rw [h j hj, ← hu]
    simp [List.getD, hj]

theorem StrAt.below {w w' : World} {a : Option Addr} {c : Nat} {ss : List ByteArray} (h : StrAt w a c ss) (hb : Below w.heap.size w w') : StrAt w' a c ss := by
  rcases h with h | ⟨ad, ha, h⟩
  · exact .inl h
  · refine .inr ⟨ad, ha, fun j hj => ?_⟩
    have h1 := h j hj
    rw [hb.cell (World.block_lt_of_cell? _ _ h1)]
    exact h1

theorem strs_oneCell (ss : List ByteArray) : ∀ u ∈ ss.map Value.string, u.oneCell' = true := by
  intro u hu
  obtain ⟨_, _, rfl⟩ := List.mem_map.1 hu
  rfl

set_option maxRecDepth 100000 in
set_option maxHeartbeats 1000000 in
theorem member_any (ab : Option Addr) (nb cb : Nat) (s : ByteArray) (a1 a2 : Option Addr) (c1 c2 : Nat) (ns os : List ByteArray) (w : World) (l1 : ns.length ≤ 1024) (l2 : os.length ≤ 1024)
    (hconv : (convert 22 9 (.slice ab nb cb)).run Yba.prog w = .ok (.string s) w) (h1 : StrAt w a1 c1 ns) (h2 : StrAt w a2 c2 os) :
    Calls Yba.prog 10 #[.slice ab nb cb, .slice a1 ns.length c1, .slice a2 os.length c2] w fun e w' => e = .returned (.tuple #[.int .i64 (pos s (ns ++ os)), .string (nm s (ns ++ os))]) ∧ w' = w := by
  have q1 := h1.plain
  have q2 := h2.plain
  clear h1 h2
  rcases q1 with q1 | ⟨b1, o1, rfl, q1⟩
  all_goals rcases q2 with q2 | ⟨b2, o2, rfl, q2⟩
  all_goals
    have Q1 := hid q1
    have Q2 := hid q2
    clear q1 q2
  all_goals
    go_enter Yba.func10, Yba.ntmps10
    go_wp2
    go_loop [14] (fun i => ∃ k : Nat, k ≤ ns.length ∧ i = .int .i64 k ∧ Miss s ns k) (fun i => ns.length - (intOf i).toNat)
    case atStart => exact ⟨0, Nat.zero_le _, rfl, Miss.zero _ _⟩
    case round =>
      obtain ⟨k, hk, rfl, hm⟩ := hrel
      by_cases hlt : k < ns.length
      · first
        | (have := Q1.out; omega)
        | (obtain ⟨x, hx⟩ : ∃ x, x = ns.getD k ByteArray.empty := ⟨_, rfl⟩
           have hck := Q1.out k hlt
           rw [← hx] at hck
           have HX := hid hx
           clear hx
           go_wp2
           · have hq : (s.toList == x.toList) = true := by assumption
             have hs := eq_of_bytes hq
             have R := left_hit (os := os) hlt hm (HX.out.symm.trans hs.symm)
             go_ret2
             exact ⟨ret2 R.1.symm (hs.symm.trans R.2.symm), rfl⟩
           · have hq : (s.toList == x.toList) = false := by assumption
             have hs := ne_of_bytes hq
             have R : Miss s ns (k + 1) := hm.succ (by rw [← HX.out]; exact hs.symm)
             go_round
             case rel => exact ⟨k + 1, by omega, by go_num, R⟩
             case measure => simp [intOf]; omega)
      · have hkn : k = ns.length := by omega
        have HM : Hid (Miss s ns ns.length) := by rw [← hkn]; exact hm
        clear hkn hm
        go_wp2
        go_loop [28] (fun i => ∃ m : Nat, m ≤ os.length ∧ i = .int .i64 m ∧ Miss s os m) (fun i => os.length - (intOf i).toNat)
        case atStart => exact ⟨0, Nat.zero_le _, rfl, Miss.zero _ _⟩
        case round =>
          obtain ⟨m, hm, rfl, hmm⟩ := hrel
          by_cases hlt2 : m < os.length
          · first
            | (have := Q2.out; omega)
            | (obtain ⟨x, hx⟩ : ∃ x, x = os.getD m ByteArray.empty := ⟨_, rfl⟩
               have hck := Q2.out m hlt2
               rw [← hx] at hck
               have HX := hid hx
               clear hx
               go_wp2
               · have hq : (s.toList == x.toList) = true := by assumption
                 have hs := eq_of_bytes hq
                 have R := right_hit hlt2 HM.out hmm (HX.out.symm.trans hs.symm)
                 go_ret2
                 exact ⟨ret2 (by rw [R.1]; omega) (hs.symm.trans R.2.symm), rfl⟩
               · have hq : (s.toList == x.toList) = false := by assumption
                 have hs := ne_of_bytes hq
                 have R : Miss s os (m + 1) := hmm.succ (by rw [← HX.out]; exact hs.symm)
                 go_round
                 case rel => exact ⟨m + 1, by omega, by go_num, R⟩
                 case measure => simp [intOf]; omega)
          · have hkn : m = os.length := by omega
            have HO : Hid (Miss s os os.length) := by rw [← hkn]; exact hmm
            clear hkn hmm
            go_wp2
            have R := both_miss HM.out HO.out
            go_ret2
            exact ⟨ret2 R.1.symm R.2.symm, rfl⟩
end Go.Proofs.Ybulkbiwm
