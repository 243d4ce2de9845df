/-
  The plain laws of seat b6601757a: escaping, prefixes, order. No Go in sight.
-/
namespace Go.Proofs.Qxb6601757a.Pl

/-- The escaping of one byte. -/
def esc1 (z : Int) : List Int := if z = 0 then [0, 255] else [z]

/-- The escaping of a key. -/
def esc : List Int → List Int
  | [] => []
  | z :: r => esc1 z ++ esc r

/-- What leads every version key of a key. -/
def pre (zs : List Int) : List Int := 118 :: (esc zs ++ [0, 1])

def Bytes (zs : List Int) : Prop := ∀ z ∈ zs, 0 ≤ z ∧ z ≤ 255

/-- Bytewise order. -/
def cmp : List Int → List Int → Int
  | [], [] => 0
  | [], _ :: _ => -1
  | _ :: _, [] => 1
  | x :: xs, y :: ys => if x < y then -1 else if y < x then 1 else cmp xs ys

/-- p begins q. -/
def hasPre : List Int → List Int → Bool
  | [], _ => true
  | _ :: _, [] => false
  | x :: xs, y :: ys => if x = y then hasPre xs ys else false

theorem esc1_bytes {z : Int} (h : 0 ≤ z ∧ z ≤ 255) : Bytes (esc1 z) := by
  intro x hx
  unfold esc1 at hx
  split at hx <;> simp at hx
  · omega
  · omega

theorem Bytes.cons {z : Int} {r : List Int} (h : Bytes (z :: r)) : (0 ≤ z ∧ z ≤ 255) ∧ Bytes r :=
  ⟨h z (by simp), fun x hx => h x (by simp [hx])⟩

theorem Bytes.app {a b : List Int} (ha : Bytes a) (hb : Bytes b) : Bytes (a ++ b) := by
  intro x hx
  rcases List.mem_append.1 hx with h | h
  · exact ha x h
  · exact hb x h

theorem Bytes.take {a : List Int} (ha : Bytes a) (k : Nat) : Bytes (a.take k) := fun x hx => ha x (List.mem_of_mem_take hx)
theorem Bytes.drop {a : List Int} (ha : Bytes a) (k : Nat) : Bytes (a.drop k) := fun x hx => ha x (List.mem_of_mem_drop hx)

theorem esc_bytes {zs : List Int} (h : Bytes zs) : Bytes (esc zs) := by
  induction zs with
  | nil => intro x hx; simp [esc] at hx
  | cons z r ih => exact (esc1_bytes h.cons.1).app (ih h.cons.2)

theorem pre_bytes {zs : List Int} (h : Bytes zs) : Bytes (pre zs) := by
  intro x hx
  simp only [pre, List.mem_cons, List.mem_append] at hx
  rcases hx with rfl | h1 | rfl | rfl | h1
  · omega
  · exact esc_bytes h x h1
  · omega
  · omega
  · simp at h1

theorem esc1_len (z : Int) : 1 ≤ (esc1 z).length ∧ (esc1 z).length ≤ 2 := by
  unfold esc1; split <;> simp

theorem esc_len (zs : List Int) : zs.length ≤ (esc zs).length ∧ (esc zs).length ≤ 2 * zs.length := by
  induction zs with
  | nil => simp [esc]
  | cons z r ih => have := esc1_len z; simp only [esc, List.length_append, List.length_cons]; omega

theorem pre_len (zs : List Int) : (pre zs).length = (esc zs).length + 3 := by simp [pre]

theorem esc_app (a b : List Int) : esc (a ++ b) = esc a ++ esc b := by
  induction a with
  | nil => rfl
  | cons z r ih => simp [esc, ih]

/-- One byte more. -/
theorem esc_take_succ (zs : List Int) (k : Nat) (h : k < zs.length) : esc (zs.take (k + 1)) = esc (zs.take k) ++ esc1 (zs.getD k 0) := by
  have e : zs.take (k + 1) = zs.take k ++ [zs.getD k 0] := by
    rw [List.take_succ_eq_append_getElem h]; simp [List.getD, h]
  rw [e, esc_app]
  simp [esc]

/-- What stands at the place of byte k. -/
theorem esc_split (zs : List Int) (k : Nat) (h : k < zs.length) :
    esc zs = esc (zs.take k) ++ (esc1 (zs.getD k 0) ++ esc (zs.drop (k + 1))) := by
  have e : zs = zs.take k ++ (zs.getD k 0 :: zs.drop (k + 1)) := by
    conv => lhs; rw [← List.take_append_drop k zs, List.drop_eq_getElem_cons h]
    simp [List.getD, h]
  conv => lhs; rw [e, esc_app]
  simp [esc]

theorem getD_mid (p q : List Int) (j : Nat) (d : Int) : (p ++ q).getD (p.length + j) d = q.getD j d := by
  simp [List.getD, List.getElem?_append_right]

/-- Byte k is not nought: it stands for itself. -/
theorem esc_at_plain (zs : List Int) (k : Nat) (h : k < zs.length) (hz : zs.getD k 0 ≠ 0) :
    (esc zs).getD (esc (zs.take k)).length 0 = zs.getD k 0 ∧ (esc (zs.take k)).length + 1 ≤ (esc zs).length ∧ (esc (zs.take (k + 1))).length = (esc (zs.take k)).length + 1 := by
  have e1 : esc1 (zs.getD k 0) = [zs.getD k 0] := by unfold esc1; rw [if_neg hz]
  have e := esc_split zs k h
  rw [e1] at e
  refine ⟨?_, ?_, ?_⟩
  · have := getD_mid (esc (zs.take k)) ([zs.getD k 0] ++ esc (zs.drop (k + 1))) 0 0
    rw [← e] at this
    simpa using this
  · rw [e]; simp only [List.length_append, List.length_cons, List.length_nil]; omega
  · rw [esc_take_succ zs k h, e1]; simp

/-- Byte k is nought: it stands as two. -/
theorem esc_at_zero (zs : List Int) (k : Nat) (h : k < zs.length) (hz : zs.getD k 0 = 0) :
    (esc zs).getD (esc (zs.take k)).length 0 = 0 ∧ (esc zs).getD ((esc (zs.take k)).length + 1) 0 = 255 ∧
      (esc (zs.take k)).length + 2 ≤ (esc zs).length ∧ (esc (zs.take (k + 1))).length = (esc (zs.take k)).length + 2 := by
  have e1 : esc1 (zs.getD k 0) = [0, 255] := by unfold esc1; rw [if_pos hz]
  have e := esc_split zs k h
  rw [e1] at e
  refine ⟨?_, ?_, ?_, ?_⟩
  · have := getD_mid (esc (zs.take k)) ([0, 255] ++ esc (zs.drop (k + 1))) 0 0
    rw [← e] at this
    simpa using this
  · have := getD_mid (esc (zs.take k)) ([0, 255] ++ esc (zs.drop (k + 1))) 1 0
    rw [← e] at this
    simpa using this
  · rw [e]; simp only [List.length_append, List.length_cons, List.length_nil]; omega
  · rw [esc_take_succ zs k h, e1]; simp

theorem cmp_self (a : List Int) : cmp a a = 0 := by
  induction a with
  | nil => rfl
  | cons x xs ih => simp [cmp, ih]

theorem cmp_zero {a b : List Int} (h : cmp a b = 0) : a = b := by
  induction a generalizing b with
  | nil => cases b with
    | nil => rfl
    | cons y ys => simp [cmp] at h
  | cons x xs ih => cases b with
    | nil => simp [cmp] at h
    | cons y ys =>
      simp only [cmp] at h
      split at h
      · omega
      · split at h
        · omega
        · have hxy : x = y := by omega
          rw [hxy, ih h]

/-- The order of the escaped keys, with a terminator and whatever stands behind it. -/
theorem cmp_esc (a b s t : List Int) (ha : Bytes a) (hb : Bytes b) :
    cmp (esc a ++ 0 :: 1 :: s) (esc b ++ 0 :: 1 :: t) = if cmp a b = 0 then cmp s t else cmp a b := by
  induction a generalizing b with
  | nil => cases b with
    | nil => simp [esc, cmp]
    | cons y ys =>
      have hy := hb.cons.1
      by_cases h : y = 0
      · simp [esc, esc1, cmp, h]
      · have : 0 < y := by omega
        simp [esc, esc1, cmp, h, this]
  | cons x xs ih => cases b with
    | nil =>
      have hx := ha.cons.1
      by_cases h : x = 0
      · simp [esc, esc1, cmp, h]
      · have h1 : 0 < x := by omega
        have h2 : ¬ x < 0 := by omega
        simp [esc, esc1, cmp, h, h1, h2]
    | cons y ys =>
      have hx := ha.cons.1
      have hy := hb.cons.1
      have i := ih ys ha.cons.2 hb.cons.2
      by_cases h1 : x = 0
      · by_cases h2 : y = 0
        · simp [esc, esc1, cmp, h1, h2, i]
        · have : 0 < y := by omega
          simp [esc, esc1, cmp, h1, h2, this]
      · by_cases h2 : y = 0
        · have h3 : 0 < x := by omega
          have h4 : ¬ x < 0 := by omega
          simp [esc, esc1, cmp, h1, h2, h3, h4]
        · simp only [esc, esc1, if_neg h1, if_neg h2, cmp, List.cons_append, List.nil_append, i]
          by_cases h3 : x < y
          · simp [h3]
          · by_cases h4 : y < x
            · simp [h3, h4]
            · simp [h3, h4]

/-- The prefixes compare as the keys do. -/
theorem cmp_pre (a b : List Int) (ha : Bytes a) (hb : Bytes b) : cmp (pre a) (pre b) = cmp a b := by
  have h := cmp_esc a b [] [] ha hb
  simp only [pre, cmp, h]
  simp
  intro hz
  simp [hz]

theorem hasPre_esc (a b : List Int) (ha : Bytes a) (hb : Bytes b) : hasPre (esc a ++ [0, 1]) (esc b ++ [0, 1]) = decide (a = b) := by
  induction a generalizing b with
  | nil => cases b with
    | nil => simp [esc, hasPre]
    | cons y ys =>
      have hy := hb.cons.1
      by_cases h : y = 0
      · simp [esc, esc1, hasPre, h]
      · have : ¬ (0 = y) := by omega
        simp [esc, esc1, hasPre, h, this]
  | cons x xs ih => cases b with
    | nil =>
      by_cases h : x = 0
      · simp [esc, esc1, hasPre, h]
      · simp [esc, esc1, hasPre, h]
    | cons y ys =>
      have i := ih ys ha.cons.2 hb.cons.2
      by_cases h1 : x = 0
      · by_cases h2 : y = 0
        · simp [esc, esc1, hasPre, h1, h2, i]
        · have : ¬ (0 = y) := by omega
          simp [esc, esc1, hasPre, h1, h2, this]
      · by_cases h2 : y = 0
        · simp [esc, esc1, hasPre, h1, h2]
        · simp only [esc, esc1, if_neg h1, if_neg h2, hasPre, List.cons_append, List.nil_append, i]
          by_cases h3 : x = y <;> simp [h3]

theorem hasPre_pre (a b : List Int) (ha : Bytes a) (hb : Bytes b) : hasPre (pre a) (pre b) = decide (a = b) := by
  simp only [pre, hasPre, if_true, hasPre_esc a b ha hb]

/-- The lead of a against the version key of b (t: its timestamp, not empty). -/
theorem cmp_pre_version (a b t : List Int) (ha : Bytes a) (hb : Bytes b) (ht : 0 < t.length) : cmp (pre a) (pre b ++ t) ≤ 0 ↔ cmp a b ≤ 0 := by
  have h := cmp_esc a b [] t ha hb
  have e : cmp (pre a) (pre b ++ t) = cmp (esc a ++ 0 :: 1 :: []) (esc b ++ 0 :: 1 :: t) := by
    simp [pre, cmp]
  rw [e, h]
  split
  · rename_i hz
    cases t with
    | nil => simp at ht
    | cons y ys => simp [cmp, hz]
  · exact Iff.rfl

theorem cmp_version_pre (a b t : List Int) (ha : Bytes a) (hb : Bytes b) : cmp (pre b ++ t) (pre a) < 0 ↔ cmp b a < 0 := by
  have h := cmp_esc b a t [] hb ha
  have e : cmp (pre b ++ t) (pre a) = cmp (esc b ++ 0 :: 1 :: t) (esc a ++ 0 :: 1 :: []) := by
    simp [pre, cmp]
  rw [e, h]
  split
  · rename_i hz
    cases t with
    | nil => simp [cmp, hz]
    | cons y ys => simp [cmp, hz]
  · exact Iff.rfl

theorem cmp_v_version (b t : List Int) : cmp [118] (pre b ++ t) = -1 := by
  have : esc b ++ [0, 1] ++ t ≠ [] := by simp
  simp only [pre, List.cons_append, cmp]
  cases h : esc b ++ [0, 1] ++ t with
  | nil => exact absurd h this
  | cons y ys => simp [cmp]

theorem cmp_version_w (b t : List Int) : cmp (pre b ++ t) [119] = -1 := by
  simp [pre, cmp]

/-! ### Rounds -/
theorem drop_at (a : List Int) (k : Nat) (h : k < a.length) : a.drop k = a.getD k 0 :: a.drop (k + 1) := by
  rw [List.drop_eq_getElem_cons h]; simp [List.getD, h]

theorem cmp_round_lt (a b : List Int) (k : Nat) (ha : k < a.length) (hb : k < b.length) (h : a.getD k 0 < b.getD k 0) : cmp (a.drop k) (b.drop k) = -1 := by
  rw [drop_at a k ha, drop_at b k hb]; simp only [cmp, if_pos h]

theorem cmp_round_gt (a b : List Int) (k : Nat) (ha : k < a.length) (hb : k < b.length) (h : b.getD k 0 < a.getD k 0) : cmp (a.drop k) (b.drop k) = 1 := by
  rw [drop_at a k ha, drop_at b k hb]
  have : ¬ a.getD k 0 < b.getD k 0 := by omega
  simp only [cmp, if_neg this, if_pos h]

theorem cmp_round_eq (a b : List Int) (k : Nat) (ha : k < a.length) (hb : k < b.length) (h1 : ¬ a.getD k 0 < b.getD k 0) (h2 : ¬ b.getD k 0 < a.getD k 0) :
    cmp (a.drop (k + 1)) (b.drop (k + 1)) = cmp (a.drop k) (b.drop k) := by
  rw [drop_at a k ha, drop_at b k hb]; simp only [cmp, if_neg h1, if_neg h2]

theorem cmp_end (a b : List Int) (k : Nat) (h : k = a.length ∨ k = b.length) (ha : k ≤ a.length) (hb : k ≤ b.length) :
    cmp (a.drop k) (b.drop k) = if a.length < b.length then -1 else if b.length < a.length then 1 else 0 := by
  have la : (a.drop k).length = a.length - k := by simp
  have lb : (b.drop k).length = b.length - k := by simp
  cases ea : a.drop k with
  | nil =>
    rw [ea] at la
    cases eb : b.drop k with
    | nil =>
      rw [eb] at lb
      simp at la lb
      rw [if_neg (by omega), if_neg (by omega)]; rfl
    | cons y ys =>
      rw [eb] at lb
      simp at la lb
      rw [if_pos (by omega)]; rfl
  | cons x xs =>
    rw [ea] at la
    cases eb : b.drop k with
    | nil =>
      rw [eb] at lb
      simp at la lb
      rw [if_neg (by omega), if_pos (by omega)]; rfl
    | cons y ys =>
      rw [eb] at lb
      simp at la lb
      omega

theorem hasPre_round_ne (a b : List Int) (k : Nat) (ha : k < a.length) (hb : k < b.length) (h : a.getD k 0 ≠ b.getD k 0) : hasPre (a.drop k) (b.drop k) = false := by
  rw [drop_at a k ha, drop_at b k hb]; simp only [hasPre, if_neg h]

theorem hasPre_round_eq (a b : List Int) (k : Nat) (ha : k < a.length) (hb : k < b.length) (h : a.getD k 0 = b.getD k 0) :
    hasPre (a.drop (k + 1)) (b.drop (k + 1)) = hasPre (a.drop k) (b.drop k) := by
  rw [drop_at a k ha, drop_at b k hb]; simp only [hasPre, if_pos h]

theorem hasPre_long (a b : List Int) (h : b.length < a.length) : hasPre a b = false := by
  induction a generalizing b with
  | nil => simp at h
  | cons x xs ih => cases b with
    | nil => rfl
    | cons y ys =>
      simp only [hasPre]
      split
      · exact ih ys (by simpa using h)
      · rfl

theorem hasPre_done (a b : List Int) (k : Nat) (h : a.length ≤ k) : hasPre (a.drop k) (b.drop k) = true := by
  rw [List.drop_eq_nil_of_le h]; cases b.drop k <;> rfl

theorem same_hasPre (a b : List Int) (h : a.length = b.length) : hasPre a b = decide (a = b) := by
  induction a generalizing b with
  | nil => cases b with
    | nil => rfl
    | cons y ys => simp at h
  | cons x xs ih => cases b with
    | nil => simp at h
    | cons y ys =>
      simp only [hasPre, ih ys (by simpa using h)]
      by_cases hxy : x = y <;> simp [hxy]

theorem ne_of_length {a b : List Int} (h : a.length ≠ b.length) : decide (a = b) = false := by
  apply decide_eq_false
  intro e
  exact h (by rw [e])

theorem take_snoc (zs : List Int) (k : Nat) (h : k < zs.length) : zs.take (k + 1) = zs.take k ++ [zs.getD k 0] := by
  rw [List.take_succ_eq_append_getElem h]; simp [List.getD, h]

theorem getD_bytes {zs : List Int} (h : Bytes zs) (k : Nat) : 0 ≤ zs.getD k 0 ∧ zs.getD k 0 ≤ 255 := by
  by_cases hk : k < zs.length
  · have : zs.getD k 0 ∈ zs := by simp [List.getD, hk]
    exact h _ this
  · simp [List.getD, hk]

end Go.Proofs.Qxb6601757a.Pl
