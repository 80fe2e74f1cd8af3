/-
  PLAIN: what appendString writes, as lists of numbers. No Go in sight.
-/
namespace Go.Proofs.Qxb6603783aDoor

/-- The sign of a hexadecimal digit, lower case. -/
def hexd (n : Int) : Int := if n < 10 then 48 + n else 87 + n

/-- One byte as appendString writes it. -/
def encB (c : Int) : List Int :=
  if c = 34 ∨ c = 92 then [92, c]
  else if c = 10 then [92, 110]
  else if c = 13 then [92, 114]
  else if c = 9 then [92, 116]
  else if c < 32 then [92, 117, 48, 48, hexd (c / 16), hexd (c % 16)]
  else [c]

def encBody (l : List Int) : List Int := l.flatMap encB
def encStr (l : List Int) : List Int := 34 :: (encBody l ++ [34])

theorem encB_len (c : Int) : 1 ≤ (encB c).length ∧ (encB c).length ≤ 6 := by
  unfold encB
  by_cases h1 : c = 34 ∨ c = 92
  · simp [if_pos h1]
  rw [if_neg h1]
  by_cases h2 : c = 10
  · simp [if_pos h2]
  rw [if_neg h2]
  by_cases h3 : c = 13
  · simp [if_pos h3]
  rw [if_neg h3]
  by_cases h4 : c = 9
  · simp [if_pos h4]
  rw [if_neg h4]
  by_cases h5 : c < 32
  · simp [if_pos h5]
  simp [if_neg h5]

theorem encBody_nil : encBody [] = [] := rfl
theorem encBody_cons (c : Int) (l : List Int) : encBody (c :: l) = encB c ++ encBody l := by simp [encBody]
theorem encBody_append (l m : List Int) : encBody (l ++ m) = encBody l ++ encBody m := by simp [encBody]
theorem encBody_len (l : List Int) : (encBody l).length ≤ 6 * l.length := by
  induction l with
  | nil => simp [encBody]
  | cons c l ih =>
    rw [encBody_cons, List.length_append, List.length_cons]
    have := encB_len c
    omega
theorem encStr_len (l : List Int) : (encStr l).length = (encBody l).length + 2 := by simp [encStr]

/-- A string's bytes as numbers. -/
def nums (s : ByteArray) : List Int := s.data.toList.map fun b => (b.toNat : Int)
theorem nums_len (s : ByteArray) : (nums s).length = s.size := by simp [nums]
theorem nums_get (s : ByteArray) (k : Nat) (h : k < s.size) : (nums s)[k]? = some ((s[k]).toNat : Int) := by
  have e : s.data.toList[k]? = some s[k] := by
    rw [List.getElem?_eq_getElem (by simpa using h)]; rfl
  simp [nums, e]
theorem take_succ_nums (s : ByteArray) (k : Nat) (h : k < s.size) : (nums s).take (k + 1) = (nums s).take k ++ [((s[k]).toNat : Int)] := by
  rw [List.take_add_one, nums_get s k h]; rfl
theorem body_snoc (s : ByteArray) (k : Nat) (h : k < s.size) :
    encBody ((nums s).take (k + 1)) = encBody ((nums s).take k) ++ encB ((s[k]).toNat : Int) := by
  rw [take_succ_nums s k h, encBody_append, encBody_cons, encBody_nil, List.append_nil]
theorem nums_drop (s : ByteArray) (k : Nat) (h : k < s.size) : (nums s).drop k = ((s[k]).toNat : Int) :: (nums s).drop (k + 1) := by
  have hl : k < (nums s).length := by rw [nums_len]; exact h
  rw [List.drop_eq_getElem_cons hl]
  have := nums_get s k h
  rw [List.getElem?_eq_getElem hl] at this
  rw [Option.some.inj this]
theorem byte_lt (s : ByteArray) (k : Nat) (h : k < s.size) : (0 : Int) ≤ ((s[k]).toNat : Int) ∧ ((s[k]).toNat : Int) ≤ 255 := by
  have := (s[k]).toNat_lt
  omega

theorem hexd_cases (n : Int) (h0 : 0 ≤ n) (h1 : n ≤ 15) : (n < 10 ∧ hexd n = 48 + n ∧ 48 ≤ hexd n ∧ hexd n ≤ 57) ∨ (10 ≤ n ∧ hexd n = 87 + n ∧ 97 ≤ hexd n ∧ hexd n ≤ 102) := by
  unfold hexd
  split <;> omega

end Go.Proofs.Qxb6603783aDoor
