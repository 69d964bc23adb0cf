import Derived.Test.YbulkbiwmMember
import Derived.Lib.ConvBytes
import Derived.Lib.SlBytesConst
import Derived.Laws.BytesArg
/-! The walk of LawS2989CHit (function 5). -/
namespace Go.Proofs.Ybulkbiwm
open Go.RowKit PlainC

theorem Yba.info9h : (Yba.prog.info? 9).map (fun i => (i.zero, i.size, i.bytes)) = some (some (.string ⟨#[]⟩), 1, 16) := by kernel_rfl

theorem strOfNums_bytes (t : ByteArray) : strOfNums (t.data.toList.map fun b => ((b.toNat : Nat) : Int)) = t := by
  obtain ⟨⟨l⟩⟩ := t
  unfold strOfNums
  congr 1
  apply Array.ext'
  simp only [List.map_map]
  refine (List.map_congr_left (g := id) fun b _ => ?_).trans (List.map_id _)
  simp

/-- '[]byte(t)' made a text again is t. -/
theorem conv_back (w : World) (t : ByteArray) (c : Nat) : (convert 22 9 (.slice (some ⟨w.heap.size, 0, none⟩) t.size c)).run Yba.prog (Lib.bytesWorld w 5 t) = .ok (.string t) (Lib.bytesWorld w 5 t) := by
  have hl : (t.data.toList.map fun b => ((b.toNat : Nat) : Int)).length = t.size := by rw [List.length_map, Array.length_toList]; rfl
  have h := run_convert_bytes_arg (P := Yba.prog) (Lib.bytesWorld w 5 t) 22 5 Yba.underlying22 Yba.underlying5 w.heap.size 0 t.size c (t.data.toList.map fun b => ((b.toNat : Nat) : Int)) hl (fun i hi => by
    have := Lib.bytesWorld_cell w 5 t i hi
    rw [Nat.zero_add, this]
    have hi' : i < t.data.toList.length := by rw [Array.length_toList]; exact hi
    rw [List.getD, List.getD, List.getElem?_map, List.getElem?_eq_getElem hi']
    rfl) 9 Yba.underlying9
  rw [h, strOfNums_bytes]

theorem pick_at (pk : Int) (n m : Nat) (hp : 0 < n + m) (l1 : n ≤ 1024) (l2 : m ≤ 1024) : ∃ k : Nat, wrap64 (pk % ((n : Int) + (m : Int))) = (k : Int) ∧ k < n + m := by
  have e1 := Int.emod_nonneg pk (show ((n : Int) + (m : Int)) ≠ 0 by omega)
  have e2 := Int.emod_lt_of_pos pk (show 0 < ((n : Int) + (m : Int)) by omega)
  refine ⟨(pk % ((n : Int) + (m : Int))).toNat, ?_, by omega⟩
  unfold wrap64
  omega

theorem bytesWorld_below {B : Nat} {a w : World} (h : Below B a w) (hB : B ≤ w.heap.size) (e : TypeId) (t : ByteArray) : Below B a (Lib.bytesWorld w e t) :=
  h.trans ⟨rfl, rfl, rfl, by rw [Lib.bytesWorld_size]; omega, fun k hk => Lib.bytesWorld_at_old w e t k (by omega)⟩

set_option maxRecDepth 100000 in
set_option maxHeartbeats 1000000 in
theorem lawHit_zero (pk : Int) (a1 a2 : Option Addr) (c1 c2 : Nat) (ns os : List ByteArray) (w : World) (z1 : ns.length ≤ 0) (z2 : os.length ≤ 0) (h1 : StrAt w a1 c1 ns) (h2 : StrAt w a2 c2 os) :
    Calls Yba.prog 5 #[.int .u64 pk, .slice a1 ns.length c1, .slice a2 os.length c2] w fun e w' => e = .returned (.bool true) ∧ Below w.heap.size w w' := by
  have kc := fun (w : World) (C : Array Value) (n c : Nat) => Lib.run_convert_bytes_const (P := Yba.prog) w 22 5 C n c Yba.underlying22 Yba.underlying5
  go_enter Yba.func5, Yba.ntmps5
  go_wp2_with fail
  have B1 : Below w.heap.size w (w.alloc (Obj.cells #[Value.int IntKind.u8 120] 5 (1, 2))) := (Below.refl _ _).alloc (Nat.le_refl _) _
  refine (member_any (some ⟨w.heap.size, 0, none⟩) 1 1 (strOfNums [120]) a1 a2 c1 c2 ns os _ (by omega) (by omega) (run_convert_bytes_arg (P := Yba.prog) _ 22 5 Yba.underlying22 Yba.underlying5 w.heap.size 0 1 1 [120] rfl (fun i hi => ?_) 9 Yba.underlying9) (h1.below B1) (h2.below B1)).mono ?_
  · have : i = 0 := by omega
    subst this
    simp [World.cell?_alloc_mark]
  · rintro e w' ⟨rfl, rfl⟩
    have n1 : ns = [] := List.eq_nil_of_length_eq_zero (by omega)
    have n2 : os = [] := List.eq_nil_of_length_eq_zero (by omega)
    have R := pos_miss (s := strOfNums [120]) (l := ns ++ os) (by subst n1 n2; exact Miss.zero _ _)
    rw [R.1, R.2]
    clear n1 n2 R
    go_wp2
    go_ret
    exact ⟨rfl, B1⟩

set_option maxRecDepth 100000 in
set_option maxHeartbeats 1000000 in
theorem lawHit_some (pk : Int) (a1 a2 : Option Addr) (c1 c2 : Nat) (ns os : List ByteArray) (w : World) (p0 : 0 ≤ pk) (p1 : pk ≤ 18446744073709551615) (l1 : ns.length ≤ 1024) (l2 : os.length ≤ 1024) (hp : 0 < ns.length + os.length) (h1 : StrAt w a1 c1 ns) (h2 : StrAt w a2 c2 os) :
    Calls Yba.prog 5 #[.int .u64 pk, .slice a1 ns.length c1, .slice a2 os.length c2] w fun e w' => e = .returned (.bool true) ∧ Below w.heap.size w w' := by
  obtain ⟨i0, hi, hz0, hz1, hz2⟩ := info_parts Yba.info9h
  go_enter Yba.func5, Yba.ntmps5
  go_wp2_with (at_make; refine wpList_make_own _ rfl _ _ 43 rfl w.heap.size 9 i0 (.string ⟨#[]⟩) 1 Yba.underlying43 hi hz0 hz1 _ _ _ (ns.length + os.length) rfl rfl (by omega) ?b2 ?b3 (Nat.le_refl _) ?_)
  case b2 => rw [hz2]; omega
  case b3 => unfold maxLen; omega
  intro w0 hown0 hgrow0
  have B0 : Below w.heap.size w w0 := (Below.refl _ _).grown hgrow0 (Nat.le_refl _) (fun k h => by cases h)
  have G1 := hid (h1.below B0)
  have G2 := hid (h2.below B0)
  go_wp2_with (at_builtin; refine wpList_append_fits_any _ rfl (.tmp 47) (.tmp 48) 43 rfl w.heap.size 9 i0 1 Yba.underlying43 hi hz1 w.heap.size 0 (ns.length + os.length) _ rfl hown0 _ ns.length _ (ns.map Value.string) rfl (by simp) G1.out.nil G1.out.src (strs_oneCell _) (by omega) ?_)
  intro w1 hown1 hgrow1
  have B1 : Below w.heap.size w w1 := B0.grown hgrow1 B0.size (fun k h => by cases h; exact Nat.le_refl _)
  have G3 := hid (h2.below B1)
  clear G1 G2 hown0 hgrow0 hgrow1
  go_wp2_with (at_builtin; refine wpList_append_fits_any _ rfl (.tmp 50) (.tmp 51) 43 rfl w.heap.size 9 i0 1 Yba.underlying43 hi hz1 w.heap.size ns.length (ns.length + os.length) _ rfl hown1 _ os.length _ (os.map Value.string) rfl (by simp) G3.out.nil G3.out.src (strs_oneCell _) (by omega) ?_)
  intro w2 hown2 hgrow2
  have B2 : Below w.heap.size w w2 := B1.grown hgrow2 B1.size (fun k h => by cases h; exact Nat.le_refl _)
  have hcells : ∀ j, j < ns.length + os.length → w2.cell? ⟨w.heap.size, j, none⟩ = some (.string ((ns ++ os).getD j ByteArray.empty)) := by
    intro j hj
    have e : ((ns ++ os).map Value.string)[j]? = some (.string ((ns ++ os).getD j ByteArray.empty)) := by
      have : j < (ns ++ os).length := by simpa using hj
      simp only [List.getElem?_map, List.getElem?_eq_getElem this, List.getD, Option.map_some, Option.getD_some]
    rw [← e, List.map_append]
    exact hown2.cellAt j (by omega)
  clear G3 hown1 hgrow2 hown2
  have HC := hid hcells
  clear hcells
  obtain ⟨k, hk, hlt⟩ := pick_at pk ns.length os.length hp l1 l2
  obtain ⟨x, hx⟩ : ∃ x, x = (ns ++ os).getD k ByteArray.empty := ⟨_, rfl⟩
  have hck := HC.out k hlt
  rw [← hx] at hck
  obtain ⟨i, hik, r1, r2, r3, r4⟩ := pos_of_mem (l := ns ++ os) (by simpa using hlt) hx.symm
  have hcb := fun (w : World) => Lib.run_convert_string_bytes (P := Yba.prog) w 9 22 5 x Yba.underlying9 Yba.underlying22 Yba.underlying5
  have HX := hid hx
  have R1 := hid r1
  have R2 := hid r2
  have R3 := hid r3
  clear hx r1 r2 r3
  go_wp2_with fail
  refine (member_any _ x.size _ x a1 a2 c1 c2 ns os (Lib.bytesWorld w2 5 x) l1 l2 (conv_back w2 x _) (h1.below (bytesWorld_below B2 B2.size 5 x)) (h2.below (bytesWorld_below B2 B2.size 5 x))).mono ?_
  rintro e w' ⟨rfl, hw'⟩
  have B3 : Below w.heap.size w w' := by rw [hw']; exact bytesWorld_below B2 B2.size 5 x
  have HC' : Hid (∀ j, j < ns.length + os.length → w'.cell? ⟨w.heap.size, j, none⟩ = some (.string ((ns ++ os).getD j ByteArray.empty))) := by
    intro j hj
    have h := HC.out j hj
    rw [hw', Lib.bytesWorld_old w2 5 x _ (World.block_lt_of_cell? _ _ h)]
    exact h
  clear HC hw' hcb hck B0 B1 B2
  rw [R1.out, R2.out]
  have hci : w'.cell? ⟨w.heap.size, i, none⟩ = some (.string x) := by rw [HC'.out i (by omega), R3.out]
  go_wp2
  go_loop [15] (fun v => ∃ m : Nat, m ≤ i ∧ v = .int .i64 m) (fun v => i - (intOf v).toNat)
  case atStart => exact ⟨0, Nat.zero_le _, rfl⟩
  case round =>
    obtain ⟨m, hm, rfl⟩ := hrel
    by_cases hmi : m < i
    · obtain ⟨y, hy⟩ : ∃ y, y = (ns ++ os).getD m ByteArray.empty := ⟨_, rfl⟩
      have hcm := HC'.out m (by omega)
      rw [← hy] at hcm
      have hne : (y.toList == x.toList) = false := by
        cases hq : y.toList == x.toList with
        | false => rfl
        | true => exact absurd (hy.symm.trans (eq_of_bytes hq)) (r4 m hmi)
      have HY := hid hy
      clear hy
      go_wp2
      go_round
      case rel => exact ⟨m + 1, by omega, by go_num⟩
      case measure => simp [intOf]; omega
    · go_wp2
      go_ret
      exact ⟨rfl, B3⟩

set_option maxRecDepth 100000 in
set_option maxHeartbeats 1000000 in
theorem lawHit_any (pk : Int) (a1 a2 : Option Addr) (c1 c2 : Nat) (ns os : List ByteArray) (w : World) (p0 : 0 ≤ pk) (p1 : pk ≤ 18446744073709551615) (m1 : ns.length ≤ maxLen) (m2 : os.length ≤ maxLen) (h1 : StrAt w a1 c1 ns) (h2 : StrAt w a2 c2 os) :
    Calls Yba.prog 5 #[.int .u64 pk, .slice a1 ns.length c1, .slice a2 os.length c2] w fun e w' => e = .returned (.bool true) ∧ Below w.heap.size w w' := by
  unfold maxLen at m1 m2
  by_cases q1 : ns.length > 1024
  · go_enter Yba.func5, Yba.ntmps5
    go_wp2
    go_ret
    exact ⟨rfl, Below.refl _ _⟩
  by_cases q2 : os.length > 1024
  · go_enter Yba.func5, Yba.ntmps5
    go_wp2
    go_ret
    exact ⟨rfl, Below.refl _ _⟩
  by_cases hz : ns.length + os.length = 0
  · exact lawHit_zero pk a1 a2 c1 c2 ns os w (by omega) (by omega) h1 h2
  · exact lawHit_some pk a1 a2 c1 c2 ns os w p0 p1 (by omega) (by omega) (by omega) h1 h2
end Go.Proofs.Ybulkbiwm
