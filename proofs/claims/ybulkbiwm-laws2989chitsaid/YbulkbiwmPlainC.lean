import Derived.WalkKit
/-! The plain law of memberName: the first place of a text in a list of texts. No Go in sight. -/
namespace Go.Proofs.Ybulkbiwm.PlainC

/-- No place ahead of k holds s. -/
def Miss (s : ByteArray) (l : List ByteArray) (k : Nat) : Prop := ∀ j, j < k → l.getD j ByteArray.empty ≠ s

/-- The first place of s in l, or -1. -/
def pos (s : ByteArray) (l : List ByteArray) : Int :=
  if l.findIdx (fun x => decide (x = s)) < l.length then (l.findIdx (fun x => decide (x = s)) : Nat) else -1

/-- The text at that place, or the empty one. -/
def nm (s : ByteArray) (l : List ByteArray) : ByteArray :=
  if l.findIdx (fun x => decide (x = s)) < l.length then s else ⟨#[]⟩

theorem eq_of_bytes {a b : ByteArray} (h : (a.toList == b.toList) = true) : a = b := by
  rw [ByteArray.toList_eq, ByteArray.toList_eq] at h
  have h' := eq_of_beq h
  cases a; cases b
  simpa using h'

theorem ne_of_bytes {a b : ByteArray} (h : (a.toList == b.toList) = false) : a ≠ b := by
  intro e
  subst e
  simp at h

theorem Miss.zero (s : ByteArray) (l : List ByteArray) : Miss s l 0 := fun _ h => absurd h (Nat.not_lt_zero _)

theorem Miss.succ {s : ByteArray} {l : List ByteArray} {k : Nat} (h : Miss s l k) (h' : l.getD k ByteArray.empty ≠ s) : Miss s l (k + 1) := by
  intro j hj
  rcases Nat.lt_or_ge j k with g | g
  · exact h j g
  · have : j = k := by omega
    subst this
    exact h'

theorem findIdx_hit {s : ByteArray} : ∀ {l : List ByteArray} {k : Nat}, k < l.length → Miss s l k → l.getD k ByteArray.empty = s → l.findIdx (fun x => decide (x = s)) = k
  | [], k, h, _, _ => by simp at h
  | x :: l, 0, _, _, e => by
    simp at e
    simp [List.findIdx_cons, e]
  | x :: l, k + 1, h, m, e => by
    have hx : x ≠ s := by simpa using m 0 (Nat.zero_lt_succ _)
    have := findIdx_hit (l := l) (k := k) (by simpa using h) (fun j hj => by simpa using m (j + 1) (by omega)) (by simpa using e)
    simp [List.findIdx_cons, hx, this]

theorem findIdx_miss {s : ByteArray} : ∀ {l : List ByteArray}, Miss s l l.length → l.findIdx (fun x => decide (x = s)) = l.length
  | [], _ => rfl
  | x :: l, m => by
    have hx : x ≠ s := by simpa using m 0 (by simp)
    have := findIdx_miss (l := l) (fun j hj => by simpa using m (j + 1) (by simpa using hj))
    simp [List.findIdx_cons, hx, this]

theorem pos_hit {s : ByteArray} {l : List ByteArray} {k : Nat} (hk : k < l.length) (m : Miss s l k) (e : l.getD k ByteArray.empty = s) : pos s l = (k : Int) ∧ nm s l = s := by
  have := findIdx_hit hk m e
  simp [pos, nm, this, hk]

theorem pos_miss {s : ByteArray} {l : List ByteArray} (m : Miss s l l.length) : pos s l = -1 ∧ nm s l = ⟨#[]⟩ := by
  have := findIdx_miss m
  simp [pos, nm, this]

theorem getD_left {ns os : List ByteArray} {k : Nat} (h : k < ns.length) : (ns ++ os).getD k ByteArray.empty = ns.getD k ByteArray.empty := by
  simp [List.getD, List.getElem?_append, h]

theorem getD_right {ns os : List ByteArray} {k : Nat} : (ns ++ os).getD (ns.length + k) ByteArray.empty = os.getD k ByteArray.empty := by
  simp [List.getD, List.getElem?_append, show ¬ ns.length + k < ns.length by omega]

theorem miss_left {s : ByteArray} {ns os : List ByteArray} {k : Nat} (hk : k ≤ ns.length) (m : Miss s ns k) : Miss s (ns ++ os) k := fun j hj => by
  rw [getD_left (by omega)]
  exact m j hj

theorem miss_both {s : ByteArray} {ns os : List ByteArray} {k : Nat} (m : Miss s ns ns.length) (m' : Miss s os k) : Miss s (ns ++ os) (ns.length + k) := fun j hj => by
  rcases Nat.lt_or_ge j ns.length with g | g
  · rw [getD_left g]
    exact m j g
  · obtain ⟨i, rfl⟩ := Nat.exists_eq_add_of_le g
    rw [getD_right]
    exact m' i (by omega)

theorem left_hit {s : ByteArray} {ns os : List ByteArray} {k : Nat} (hk : k < ns.length) (m : Miss s ns k) (e : ns.getD k ByteArray.empty = s) : pos s (ns ++ os) = (k : Int) ∧ nm s (ns ++ os) = s :=
  pos_hit (by simp; omega) (miss_left (by omega) m) (by rw [getD_left hk]; exact e)

theorem right_hit {s : ByteArray} {ns os : List ByteArray} {k : Nat} (hk : k < os.length) (m : Miss s ns ns.length) (m' : Miss s os k) (e : os.getD k ByteArray.empty = s) : pos s (ns ++ os) = ((ns.length + k : Nat) : Int) ∧ nm s (ns ++ os) = s :=
  pos_hit (by simp; omega) (miss_both m m') (by rw [getD_right]; exact e)

theorem both_miss {s : ByteArray} {ns os : List ByteArray} (m : Miss s ns ns.length) (m' : Miss s os os.length) : pos s (ns ++ os) = -1 ∧ nm s (ns ++ os) = ⟨#[]⟩ :=
  pos_miss (by rw [List.length_append]; exact miss_both m m')

/-- A text that stands at place k is found at or before it: no place ahead of the answer holds it. -/
theorem pos_of_mem {s : ByteArray} {l : List ByteArray} {k : Nat} (hk : k < l.length) (e : l.getD k ByteArray.empty = s) :
    ∃ i : Nat, i ≤ k ∧ pos s l = (i : Int) ∧ nm s l = s ∧ l.getD i ByteArray.empty = s ∧ Miss s l i := by
  have hex : ∀ n, n ≤ l.length → (∃ i, i < n ∧ l.getD i ByteArray.empty = s ∧ Miss s l i) ∨ Miss s l n := by
    intro n
    induction n with
    | zero => intro _; exact .inr (Miss.zero _ _)
    | succ n ih =>
      intro hn
      rcases ih (by omega) with ⟨i, hi, h1, h2⟩ | h
      · exact .inl ⟨i, by omega, h1, h2⟩
      · by_cases q : l.getD n ByteArray.empty = s
        · exact .inl ⟨n, by omega, q, h⟩
        · exact .inr (h.succ q)
  rcases hex (k + 1) (by omega) with ⟨i, hi, h1, h2⟩ | h
  · have := pos_hit (by omega) h2 h1
    exact ⟨i, by omega, this.1, this.2, h1, h2⟩
  · exact absurd e (h k (by omega))

end Go.Proofs.Ybulkbiwm.PlainC
