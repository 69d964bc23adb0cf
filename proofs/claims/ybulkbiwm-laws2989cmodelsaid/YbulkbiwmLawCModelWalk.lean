import Derived.Test.YbulkbiwmModel
/-! The walk of LawS2989CModel (function 4). -/
namespace Go.Proofs.Ybulkbiwm
open Go.RowKit PlainC

set_option maxRecDepth 100000 in
set_option maxHeartbeats 1000000 in
theorem lawModel_any (ab : Option Addr) (nb cb : Nat) (s : ByteArray) (a1 a2 : Option Addr) (c1 c2 : Nat) (ns os : List ByteArray) (w : World)
    (mb : nb ≤ maxLen) (m1 : ns.length ≤ maxLen) (m2 : os.length ≤ maxLen)
    (hconv : ∀ w', Below w.heap.size w w' → (convert 22 9 (.slice ab nb cb)).run Yba.prog w' = .ok (.string s) w') (h1 : StrAt w a1 c1 ns) (h2 : StrAt w a2 c2 os) :
    Calls Yba.prog 4 #[.slice ab nb cb, .slice a1 ns.length c1, .slice a2 os.length c2] w fun e w' => e = .returned (.bool true) ∧ Below w.heap.size w w' := by
  unfold maxLen at mb m1 m2
  by_cases q : nb > 4096 ∨ ns.length > 1024 ∨ os.length > 1024
  · rcases q with q | q
    · go_enter Yba.func4, Yba.ntmps4
      go_wp2
      go_ret
      exact ⟨rfl, Below.refl _ _⟩
    · by_cases p : nb > 4096
      · go_enter Yba.func4, Yba.ntmps4
        go_wp2
        go_ret
        exact ⟨rfl, Below.refl _ _⟩
      · rcases q with q | q
        · go_enter Yba.func4, Yba.ntmps4
          go_wp2
          go_ret
          exact ⟨rfl, Below.refl _ _⟩
        · by_cases p' : ns.length > 1024
          · go_enter Yba.func4, Yba.ntmps4
            go_wp2
            go_ret
            exact ⟨rfl, Below.refl _ _⟩
          · go_enter Yba.func4, Yba.ntmps4
            go_wp2
            go_ret
            exact ⟨rfl, Below.refl _ _⟩
  · have qb : nb ≤ 4096 := by omega
    have q1 : ns.length ≤ 1024 := by omega
    have q2 : os.length ≤ 1024 := by omega
    clear q m1 m2 mb
    have HK := hid hconv
    clear hconv
    go_enter Yba.func4, Yba.ntmps4
    go_wp2_with fail
    refine (member_any ab nb cb s a1 a2 c1 c2 ns os w q1 q2 (HK.out w (Below.refl _ _)) h1 h2).mono ?_
    rintro e w' ⟨rfl, rfl⟩
    have hcv := HK.out _ (Below.refl _ _)
    go_wp2_with fail
    refine (model_any s a1 a2 c1 c2 ns os _ q1 q2 h1 h2).mono ?_
    rintro e w' ⟨rfl, hb⟩
    go_wp2
    go_ret
    exact ⟨rfl, hb⟩
end Go.Proofs.Ybulkbiwm
