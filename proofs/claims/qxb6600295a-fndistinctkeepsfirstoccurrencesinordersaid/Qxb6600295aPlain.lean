/-
  The plain laws of seat b6600295a: the first occurrences of a list of lines. No Go in sight.
-/
namespace Go.Proofs.Qxb6600295a.Pl

/-- Is the line among them? -/
def inB (acc : List ByteArray) (s : ByteArray) : Bool := acc.any fun t => t.data.toList == s.data.toList

theorem data_inj {s t : ByteArray} (h : s.data.toList = t.data.toList) : s = t := by
  cases s; cases t
  simp at h
  rw [h]

theorem inB_iff (acc : List ByteArray) (s : ByteArray) : inB acc s = true ↔ s ∈ acc := by
  unfold inB
  rw [List.any_eq_true]
  constructor
  · rintro ⟨t, ht, e⟩
    rw [← data_inj (eq_of_beq e)]
    exact ht
  · intro h
    exact ⟨s, h, by simp⟩

/-- One line more: kept if it is new. -/
def add (acc : List ByteArray) (s : ByteArray) : List ByteArray := if inB acc s then acc else acc ++ [s]

/-- What is kept of the first k lines. -/
def firsts (ss : List ByteArray) : Nat → List ByteArray
  | 0 => []
  | k + 1 => add (firsts ss k) (ss.getD k ByteArray.empty)

theorem firsts_old (ss : List ByteArray) (k : Nat) (h : ss.getD k ByteArray.empty ∈ firsts ss k) : firsts ss (k + 1) = firsts ss k := by
  simp only [firsts, add, if_pos ((inB_iff _ _).2 h)]

theorem firsts_new (ss : List ByteArray) (k : Nat) (h : ¬ ss.getD k ByteArray.empty ∈ firsts ss k) : firsts ss (k + 1) = firsts ss k ++ [ss.getD k ByteArray.empty] := by
  simp only [firsts, add, if_neg (fun e => h ((inB_iff _ _).1 e))]

theorem mem_firsts (ss : List ByteArray) (s : ByteArray) : ∀ k, s ∈ firsts ss k ↔ ∃ j, j < k ∧ ss.getD j ByteArray.empty = s
  | 0 => by simp [firsts]
  | k + 1 => by
    have ih := mem_firsts ss s k
    by_cases h : ss.getD k ByteArray.empty ∈ firsts ss k
    · rw [firsts_old ss k h, ih]
      constructor
      · rintro ⟨j, hj, e⟩
        exact ⟨j, by omega, e⟩
      · rintro ⟨j, hj, e⟩
        by_cases hjk : j = k
        · subst hjk
          rw [e] at h
          exact ih.1 h
        · exact ⟨j, by omega, e⟩
    · rw [firsts_new ss k h, List.mem_append, ih]
      constructor
      · rintro (⟨j, hj, e⟩ | e)
        · exact ⟨j, by omega, e⟩
        · rw [List.mem_singleton] at e
          exact ⟨k, by omega, e.symm⟩
      · rintro ⟨j, hj, e⟩
        by_cases hjk : j = k
        · subst hjk
          exact .inr (by rw [← e]; simp)
        · exact .inl ⟨j, by omega, e⟩

theorem firsts_len (ss : List ByteArray) : ∀ k, (firsts ss k).length ≤ k
  | 0 => by simp [firsts]
  | k + 1 => by
    have ih := firsts_len ss k
    by_cases h : ss.getD k ByteArray.empty ∈ firsts ss k
    · rw [firsts_old ss k h]; omega
    · rw [firsts_new ss k h]; simp; omega

theorem firsts_grow (ss : List ByteArray) (k : Nat) : ∀ m, ∃ t, firsts ss (k + m) = firsts ss k ++ t
  | 0 => ⟨[], by simp⟩
  | m + 1 => by
    obtain ⟨t, ih⟩ := firsts_grow ss k m
    by_cases h : ss.getD (k + m) ByteArray.empty ∈ firsts ss (k + m)
    · exact ⟨t, by rw [← Nat.add_assoc, firsts_old ss _ h, ih]⟩
    · exact ⟨t ++ [ss.getD (k + m) ByteArray.empty], by rw [← Nat.add_assoc, firsts_new ss _ h, ih]; simp⟩

/-- A line that is new at k stands in the answer at its place. -/
theorem firsts_at (ss : List ByteArray) (k n : Nat) (hk : k < n) (h : ¬ ss.getD k ByteArray.empty ∈ firsts ss k) :
    (firsts ss k).length < (firsts ss n).length ∧ (firsts ss n).getD (firsts ss k).length ByteArray.empty = ss.getD k ByteArray.empty := by
  obtain ⟨t, ht⟩ := firsts_grow ss (k + 1) (n - (k + 1))
  rw [show k + 1 + (n - (k + 1)) = n by omega, firsts_new ss k h, List.append_assoc] at ht
  rw [ht]
  refine ⟨by simp, ?_⟩
  simp [List.getD]

theorem firsts_nil (ss : List ByteArray) (n : Nat) : firsts ss n = [] ↔ n = 0 := by
  constructor
  · intro h
    cases n with
    | zero => rfl
    | succ k =>
      have : ss.getD k ByteArray.empty ∈ firsts ss (k + 1) := (mem_firsts ss _ (k + 1)).2 ⟨k, by omega, rfl⟩
      rw [h] at this
      simp at this
  · intro h
    subst h
    rfl

theorem firsts_wf (ss : List ByteArray) (p : ByteArray → Prop) (h : ∀ j, p (ss.getD j ByteArray.empty)) (k : Nat) : ∀ s ∈ firsts ss k, p s := by
  intro s hs
  obtain ⟨j, _, e⟩ := (mem_firsts ss s k).1 hs
  rw [← e]
  exact h j

theorem take_snoc (ss : List ByteArray) (k : Nat) (h : k < ss.length) : ss.take (k + 1) = ss.take k ++ [ss.getD k ByteArray.empty] := by
  rw [List.take_succ_eq_append_getElem h]; simp [List.getD, h]

end Go.Proofs.Qxb6600295a.Pl
