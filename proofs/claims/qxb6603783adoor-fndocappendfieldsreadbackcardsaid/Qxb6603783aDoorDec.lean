/-
  PLAIN: decimal numerals as lists of numbers. No Go in sight.
-/
import Derived.Test.Qxb6603783aDoorPlain
namespace Go.Proofs.Qxb6603783aDoor

def isDig (c : Int) : Bool := decide (48 ≤ c ∧ c ≤ 57)
def AllDig (l : List Int) : Prop := ∀ c ∈ l, 48 ≤ c ∧ c ≤ 57

/-- A numeral's value. -/
def dvF (v : Nat) (l : List Int) : Nat := l.foldl (fun v c => v * 10 + (c - 48).toNat) v
def dv (l : List Int) : Nat := dvF 0 l
theorem dv_snoc (l : List Int) (c : Int) : dv (l ++ [c]) = dv l * 10 + (c - 48).toNat := by simp [dv, dvF]
theorem dvF_ge (v : Nat) (l : List Int) : v ≤ dvF v l := by
  induction l generalizing v with
  | nil => exact Nat.le_refl _
  | cons c l ih =>
    have := ih (v * 10 + (c - 48).toNat)
    show v ≤ dvF (v * 10 + (c - 48).toNat) l
    omega
theorem dv_append (a b : List Int) : dv (a ++ b) = dvF (dv a) b := by simp [dv, dvF]
theorem dv_take_le (l : List Int) (k : Nat) : dv (l.take k) ≤ dv l := by
  have := dv_append (l.take k) (l.drop k)
  rw [List.take_append_drop] at this
  rw [this]; exact dvF_ge _ _
theorem take_succ_get (l : List Int) (k : Nat) (h : k < l.length) : l.take (k + 1) = l.take k ++ [l.getD k 0] := by
  rw [List.take_add_one, List.getElem?_eq_getElem h]; simp [List.getD, h]
theorem dv_take_succ (l : List Int) (k : Nat) (h : k < l.length) : dv (l.take (k + 1)) = dv (l.take k) * 10 + (l.getD k 0 - 48).toNat := by
  rw [take_succ_get l k h, dv_snoc]

/-- docB1utoa's digits: at most 'fuel' of them. -/
def dgo : Nat → Nat → List Int → List Int
  | 0, _, acc => acc
  | f + 1, v, acc => if v / 10 = 0 then (48 + (v % 10 : Nat) : Int) :: acc else dgo f (v / 10) ((48 + (v % 10 : Nat) : Int) :: acc)
def utoa (v : Nat) : List Int := dgo 20 v []

theorem dgo_dig (f v : Nat) (acc : List Int) (h : AllDig acc) : AllDig (dgo f v acc) := by
  induction f generalizing v acc with
  | zero => exact h
  | succ f ih =>
    have hc : AllDig ((48 + (v % 10 : Nat) : Int) :: acc) := by
      intro c hc
      rcases List.mem_cons.1 hc with rfl | hc
      · omega
      · exact h c hc
    unfold dgo
    split
    · exact hc
    · exact ih _ _ hc
theorem utoa_dig (v : Nat) : AllDig (utoa v) := dgo_dig 20 v [] (fun _ h => by cases h)

theorem dgo_len (f v : Nat) (acc : List Int) : acc.length ≤ (dgo f v acc).length ∧ (dgo f v acc).length ≤ acc.length + f := by
  induction f generalizing v acc with
  | zero => exact ⟨Nat.le_refl _, Nat.le_refl _⟩
  | succ f ih =>
    unfold dgo
    split
    · rw [List.length_cons]; omega
    · have := ih (v / 10) ((48 + (v % 10 : Nat) : Int) :: acc)
      rw [List.length_cons] at this
      omega
theorem utoa_len (v : Nat) : 1 ≤ (utoa v).length ∧ (utoa v).length ≤ 20 := by
  refine ⟨?_, by have := (dgo_len 20 v []).2; simpa [utoa] using this⟩
  unfold utoa dgo
  split
  · simp
  · have := (dgo_len 19 (v / 10) [(48 + (v % 10 : Nat) : Int)]).1
    simpa using this

/-- What a numeral is worth ahead of 'm' more digits. -/
theorem dvF_mul (v : Nat) (l : List Int) : dvF v l = v * 10 ^ l.length + dv l := by
  induction l generalizing v with
  | nil => simp [dvF, dv]
  | cons c l ih =>
    have h1 : dvF v (c :: l) = dvF (v * 10 + (c - 48).toNat) l := rfl
    have h2 : dv (c :: l) = dvF ((c - 48).toNat) l := by show dvF (0 * 10 + (c - 48).toNat) l = _; rw [Nat.zero_mul, Nat.zero_add]
    rw [h1, h2, ih, ih ((c - 48).toNat), List.length_cons, Nat.pow_succ, Nat.add_mul, Nat.mul_assoc, Nat.mul_comm 10]
    omega

theorem dgo_dv (f v : Nat) (acc : List Int) (h : v < 10 ^ f) (hf : 0 < f) : dv (dgo f v acc) = v * 10 ^ acc.length + dv acc := by
  induction f generalizing v acc with
  | zero => omega
  | succ f ih =>
    have hcons : ∀ r : Nat, dv ((48 + (r : Nat) : Int) :: acc) = r * 10 ^ acc.length + dv acc := by
      intro r
      have e : dv ((48 + (r : Nat) : Int) :: acc) = dvF r acc := by
        show dvF (0 * 10 + ((48 + (r : Nat) : Int) - 48).toNat) acc = _
        congr 1; omega
      rw [e, dvF_mul]
    unfold dgo
    split
    · rename_i h0
      rw [hcons, show v % 10 = v by omega]
    · rename_i h0
      have hf' : 0 < f := by
        rcases Nat.eq_zero_or_pos f with rfl | h'
        · simp at h; omega
        · exact h'
      rw [ih (v / 10) _ (by rw [Nat.pow_succ] at h; omega) hf', hcons, List.length_cons, Nat.pow_succ]
      have : v = v / 10 * 10 + v % 10 := by omega
      generalize v / 10 = q at *
      generalize v % 10 = r at *
      subst this
      rw [Nat.add_mul, ← Nat.add_assoc, Nat.mul_comm (10 ^ acc.length) 10, Nat.mul_assoc]
theorem utoa_dv (v : Nat) (h : v < 18446744073709551616) : dv (utoa v) = v := by
  have := dgo_dv 20 v [] (Nat.lt_of_lt_of_le h (by decide)) (by decide)
  simpa [utoa, dv, dvF] using this

/-- No leading zero. -/
theorem dgo_head (f v : Nat) (acc : List Int) (h : v < 10 ^ f) (hf : 0 < f) (hv : 0 < v) : ∃ c l, dgo f v acc = c :: l ∧ c ≠ 48 := by
  induction f generalizing v acc with
  | zero => omega
  | succ f ih =>
    unfold dgo
    split
    · exact ⟨_, _, rfl, by omega⟩
    · rename_i h0
      have hf' : 0 < f := by
        rcases Nat.eq_zero_or_pos f with rfl | h'
        · simp at h; omega
        · exact h'
      exact ih (v / 10) _ (by rw [Nat.pow_succ] at h; omega) hf' (by omega)
theorem utoa_head (v : Nat) (h : v < 18446744073709551616) : (utoa v).length = 1 ∨ (utoa v).getD 0 0 ≠ 48 := by
  rcases Nat.eq_zero_or_pos v with rfl | hv
  · exact .inl rfl
  · obtain ⟨c, l, hc, hne⟩ := dgo_head 20 v [] (Nat.lt_of_lt_of_le h (by decide)) (by decide) hv
    right
    unfold utoa
    rw [hc]
    simpa using hne

/-- Where the digits at a text's end begin: the place behind the last byte that is none. -/
def cutF : Nat → List Int → Nat
  | 0, _ => 0
  | i + 1, l => if isDig (l.getD i 0) then cutF i l else i + 1
def cutAt (l : List Int) : Nat := cutF l.length l

theorem cutF_le (i : Nat) (l : List Int) : cutF i l ≤ i := by
  induction i with
  | zero => exact Nat.le_refl _
  | succ i ih => unfold cutF; split <;> omega
theorem cutF_dig (i : Nat) (l : List Int) : ∀ j, cutF i l ≤ j → j < i → isDig (l.getD j 0) = true := by
  induction i with
  | zero => intro j _ h; omega
  | succ i ih =>
    intro j h1 h2
    unfold cutF at h1
    split at h1
    · by_cases e : j = i
      · subst e; assumption
      · exact ih j h1 (by omega)
    · omega
theorem cutF_stop (i : Nat) (l : List Int) (h : 0 < cutF i l) : isDig (l.getD (cutF i l - 1) 0) = false := by
  induction i with
  | zero => simp [cutF] at h
  | succ i ih =>
    unfold cutF at h ⊢
    split
    · rename_i h1; rw [if_pos h1] at h; exact ih h
    · rename_i h1; simpa using h1
/-- It is determined by that. -/
theorem cutF_unique (i : Nat) (l : List Int) (k : Nat) (hk : k ≤ i) (h1 : ∀ j, k ≤ j → j < i → isDig (l.getD j 0) = true) (h2 : 0 < k → isDig (l.getD (k - 1) 0) = false) : cutF i l = k := by
  have a := cutF_le i l
  rcases Nat.lt_trichotomy (cutF i l) k with h | h | h
  · have := cutF_dig i l (k - 1) (by omega) (by omega)
    rw [h2 (by omega)] at this; cases this
  · exact h
  · have := h1 (cutF i l - 1) (by omega) (by omega)
    rw [cutF_stop i l (by omega)] at this; cases this

theorem isDig_iff (c : Int) : isDig c = true ↔ 48 ≤ c ∧ c ≤ 57 := by simp [isDig]

theorem cutAt_join (X D : List Int) (hD : AllDig D) (hX : X = [] ∨ isDig (X.getD (X.length - 1) 0) = false) : cutAt (X ++ D) = X.length := by
  refine cutF_unique _ _ _ (by simp) ?_ ?_
  · intro j h1 h2
    rw [List.length_append] at h2
    have e : (X ++ D).getD j 0 = D[j - X.length]'(by omega) := by
      rw [List.getD_eq_getElem?_getD, List.getElem?_append_right h1, List.getElem?_eq_getElem (by omega)]; rfl
    rw [e, isDig_iff]
    exact hD _ (List.getElem_mem _)
  · intro h
    rcases hX with rfl | hX
    · simp at h
    · have e : (X ++ D).getD (X.length - 1) 0 = X.getD (X.length - 1) 0 := by
        rw [List.getD_eq_getElem?_getD, List.getElem?_append_left (by omega), List.getD_eq_getElem?_getD]
      rw [e]; exact hX

end Go.Proofs.Qxb6603783aDoor
