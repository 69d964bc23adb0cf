import Derived.Test.YbulkbiwmMember
import Derived.ProofKit
import Derived.OpenShut
import Derived.ShutString
import Derived.ChangeOld
import Derived.SliceStrings
import Derived.Laws.BytesArg
/-! What the two laws over memberName share: how the arguments are opened. -/
namespace Go.Proofs.Ybulkbiwm
open Go.ChangeShapes Go.WideShapes Go.ChangeAt Go.RowKit

theorem Yba.own : ownKnob Yba.prog.godebug = none := by kernel_rfl
theorem Yba.laidOut : laidOutB Yba.prog = true := by kernel_rfl
theorem Yba.cells9 : Yba.prog.cellsOf 9 = 1 := by kernel_rfl
theorem Yba.cells5 : Yba.prog.cellsOf 5 = 1 := by kernel_rfl

/-- A slice of texts that came in. -/
theorem open_strAt {H : Type} {enc : TypeId × Value → H} {W : World} {base : Nat} {held : Bool} {a : Option Addr} {len cap : Nat} {d : DataW H} {p : List MemPlace}
    (h : DataW.Trod enc Yba.prog W base (fun _ => true) held 43 (.slice a len cap) d p) : ∃ ns : List ByteArray, len = ns.length ∧ ns.length ≤ maxLen ∧ StrAt W a cap ns := by
  obtain ⟨fuel, hf⟩ := h
  rcases open_strings Yba.underlying43 Yba.underlying9 Yba.cells9 hf with ⟨hcs, _⟩ | ⟨x, l, c, ss, hcs, _, hl, hm, hz, _, hcell, _⟩
  · simp [Value.cells] at hcs
    obtain ⟨rfl, rfl, rfl⟩ := hcs
    exact ⟨[], rfl, by unfold maxLen; simp, .inl ⟨rfl, rfl, rfl⟩⟩
  · simp [Value.cells] at hcs
    obtain ⟨rfl, rfl, rfl⟩ := hcs
    simp at hz
    refine ⟨ss.take len, by simp; omega, by unfold maxLen at *; simp; omega, .inr ⟨x, rfl, fun j hj => ?_⟩⟩
    have hj' : j < len ∧ j < ss.length := by simpa [Nat.lt_min] using hj
    rw [hcell j hj'.2]
    simp [List.getD, hj'.1]

/-- A slice of bytes that came in, made a text: the same in every world that keeps what was there. -/
theorem open_bytesAt {H : Type} {enc : TypeId × Value → H} {W : World} {base : Nat} {held : Bool} {a : Option Addr} {len cap : Nat} {d : DataW H} {p : List MemPlace}
    (h : DataW.Trod enc Yba.prog W base (fun _ => true) held 22 (.slice a len cap) d p) :
    ∃ s : ByteArray, len ≤ maxLen ∧ ∀ w', Below W.heap.size W w' → (convert 22 9 (.slice a len cap)).run Yba.prog w' = .ok (.string s) w' := by
  obtain ⟨fuel, hf⟩ := h
  rcases open_ints Yba.underlying22 Yba.underlying5 Yba.cells5 hf with ⟨hcs, _⟩ | ⟨x, l, c, zs, hcs, _, hl, hm, hz, _, hcell, _⟩
  · simp [Value.cells] at hcs
    obtain ⟨rfl, rfl, rfl⟩ := hcs
    exact ⟨ByteArray.empty, by unfold maxLen; simp, fun w' _ => run_convert_bytes_nil w' 22 5 Yba.underlying22 Yba.underlying5 0 0 9 Yba.underlying9⟩
  · simp [Value.cells] at hcs
    obtain ⟨rfl, rfl, rfl⟩ := hcs
    simp at hz
    refine ⟨(zs.take len).foldl (fun r n => r.push (UInt8.ofNat n.toNat)) ByteArray.empty, Nat.le_trans hl hm, fun w' hb => ?_⟩
    rw [run_convert_bytes_string w' 22 9 5 _ len cap Yba.underlying22 Yba.underlying5 Yba.underlying9]
    refine run_bytesToString w' x len cap (zs.take len) ?_
    have := run_loadCells_list (P := Yba.prog) w' x ((zs.take len).map (Value.int .u8)) (fun j v hj => by
      have hjl : j < len ∧ j < zs.length := by simpa [Nat.lt_min] using (List.getElem?_eq_some_iff.1 hj).1
      have h1 := hcell j hjl.2
      rw [hb.cell (World.block_lt_of_cell? _ _ h1), h1, ← hj]
      simp [List.getD, hjl.1, hjl.2])
    have e : ((zs.take len).map (Value.int .u8)).length = len := by simp; omega
    rw [e] at this
    exact this
end Go.Proofs.Ybulkbiwm
