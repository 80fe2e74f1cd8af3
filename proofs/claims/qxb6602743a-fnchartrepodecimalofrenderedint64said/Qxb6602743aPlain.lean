/-
  PLAIN: decimal numerals as lists of numbers. No Go in sight.
-/
namespace Go.Proofs.Qxb6602743a

/-- A string's bytes as numbers. -/
def nums (s : ByteArray) : List Int := s.data.toList.map fun b => (b.toNat : Int)
theorem nums_len (s : ByteArray) : (nums s).length = s.size := by simp [nums]
theorem nums_get (s : ByteArray) (k : Nat) (h : k < s.size) : (nums s)[k]? = some ((s[k]).toNat : Int) := by
  have e : s.data.toList[k]? = some s[k] := by
    rw [List.getElem?_eq_getElem (by simpa using h)]; rfl
  simp [nums, e]
theorem take_succ_nums (s : ByteArray) (k : Nat) (h : k < s.size) : (nums s).take (k + 1) = (nums s).take k ++ [((s[k]).toNat : Int)] := by
  rw [List.take_add_one, nums_get s k h]; rfl
theorem byte_lt (s : ByteArray) (k : Nat) (h : k < s.size) : (0 : Int) ≤ ((s[k]).toNat : Int) ∧ ((s[k]).toNat : Int) ≤ 255 := by
  have := (s[k]).toNat_lt
  omega

def isDig (c : Int) : Bool := decide (48 ≤ c ∧ c ≤ 57)
def AllDig (l : List Int) : Prop := ∀ c ∈ l, 48 ≤ c ∧ c ≤ 57

/-- A numeral's value. -/
def dvF (v : Nat) (l : List Int) : Nat := l.foldl (fun v c => v * 10 + (c - 48).toNat) v
def dv (l : List Int) : Nat := dvF 0 l
theorem dv_snoc (l : List Int) (c : Int) : dv (l ++ [c]) = dv l * 10 + (c - 48).toNat := by simp [dv, dvF]
theorem dvF_ge (v : Nat) (l : List Int) : v ≤ dvF v l := by
  induction l generalizing v with
  | nil => exact Nat.le_refl _
  | cons c l ih =>
    have := ih (v * 10 + (c - 48).toNat)
    show v ≤ dvF (v * 10 + (c - 48).toNat) l
    omega
theorem dv_append (a b : List Int) : dv (a ++ b) = dvF (dv a) b := by simp [dv, dvF]
theorem dv_take_le (l : List Int) (k : Nat) : dv (l.take k) ≤ dv l := by
  have := dv_append (l.take k) (l.drop k)
  rw [List.take_append_drop] at this
  rw [this]; exact dvF_ge _ _
theorem take_succ_get (l : List Int) (k : Nat) (h : k < l.length) : l.take (k + 1) = l.take k ++ [l.getD k 0] := by
  rw [List.take_add_one, List.getElem?_eq_getElem h]; simp [List.getD, h]
theorem dv_take_succ (l : List Int) (k : Nat) (h : k < l.length) : dv (l.take (k + 1)) = dv (l.take k) * 10 + (l.getD k 0 - 48).toNat := by
  rw [take_succ_get l k h, dv_snoc]

/-- docB1utoa's digits: at most 'fuel' of them. -/
def dgo : Nat → Nat → List Int → List Int
  | 0, _, acc => acc
  | f + 1, v, acc => if v / 10 = 0 then (48 + (v % 10 : Nat) : Int) :: acc else dgo f (v / 10) ((48 + (v % 10 : Nat) : Int) :: acc)
def utoa (v : Nat) : List Int := dgo 20 v []

theorem dgo_dig (f v : Nat) (acc : List Int) (h : AllDig acc) : AllDig (dgo f v acc) := by
  induction f generalizing v acc with
  | zero => exact h
  | succ f ih =>
    have hc : AllDig ((48 + (v % 10 : Nat) : Int) :: acc) := by
      intro c hc
      rcases List.mem_cons.1 hc with rfl | hc
      · omega
      · exact h c hc
    unfold dgo
    split
    · exact hc
    · exact ih _ _ hc
theorem utoa_dig (v : Nat) : AllDig (utoa v) := dgo_dig 20 v [] (fun _ h => by cases h)

theorem dgo_len (f v : Nat) (acc : List Int) : acc.length ≤ (dgo f v acc).length ∧ (dgo f v acc).length ≤ acc.length + f := by
  induction f generalizing v acc with
  | zero => exact ⟨Nat.le_refl _, Nat.le_refl _⟩
  | succ f ih =>
    unfold dgo
    split
    · rw [List.length_cons]; omega
    · have := ih (v / 10) ((48 + (v % 10 : Nat) : Int) :: acc)
      rw [List.length_cons] at this
      omega
theorem utoa_len (v : Nat) : 1 ≤ (utoa v).length ∧ (utoa v).length ≤ 20 := by
  refine ⟨?_, by have := (dgo_len 20 v []).2; simpa [utoa] using this⟩
  unfold utoa dgo
  split
  · simp
  · have := (dgo_len 19 (v / 10) [(48 + (v % 10 : Nat) : Int)]).1
    simpa using this

/-- What a numeral is worth ahead of 'm' more digits. -/
theorem dvF_mul (v : Nat) (l : List Int) : dvF v l = v * 10 ^ l.length + dv l := by
  induction l generalizing v with
  | nil => simp [dvF, dv]
  | cons c l ih =>
    have h1 : dvF v (c :: l) = dvF (v * 10 + (c - 48).toNat) l := rfl
    have h2 : dv (c :: l) = dvF ((c - 48).toNat) l := by show dvF (0 * 10 + (c - 48).toNat) l = _; rw [Nat.zero_mul, Nat.zero_add]
    rw [h1, h2, ih, ih ((c - 48).toNat), List.length_cons, Nat.pow_succ, Nat.add_mul, Nat.mul_assoc, Nat.mul_comm 10]
    omega

theorem dgo_dv (f v : Nat) (acc : List Int) (h : v < 10 ^ f) (hf : 0 < f) : dv (dgo f v acc) = v * 10 ^ acc.length + dv acc := by
  induction f generalizing v acc with
  | zero => omega
  | succ f ih =>
    have hcons : ∀ r : Nat, dv ((48 + (r : Nat) : Int) :: acc) = r * 10 ^ acc.length + dv acc := by
      intro r
      have e : dv ((48 + (r : Nat) : Int) :: acc) = dvF r acc := by
        show dvF (0 * 10 + ((48 + (r : Nat) : Int) - 48).toNat) acc = _
        congr 1; omega
      rw [e, dvF_mul]
    unfold dgo
    split
    · rename_i h0
      rw [hcons, show v % 10 = v by omega]
    · rename_i h0
      have hf' : 0 < f := by
        rcases Nat.eq_zero_or_pos f with rfl | h'
        · simp at h; omega
        · exact h'
      rw [ih (v / 10) _ (by rw [Nat.pow_succ] at h; omega) hf', hcons, List.length_cons, Nat.pow_succ]
      have : v = v / 10 * 10 + v % 10 := by omega
      generalize v / 10 = q at *
      generalize v % 10 = r at *
      subst this
      rw [Nat.add_mul, ← Nat.add_assoc, Nat.mul_comm (10 ^ acc.length) 10, Nat.mul_assoc]
theorem utoa_dv (v : Nat) (h : v < 18446744073709551616) : dv (utoa v) = v := by
  have := dgo_dv 20 v [] (Nat.lt_of_lt_of_le h (by decide)) (by decide)
  simpa [utoa, dv, dvF] using this

/-- No leading zero. -/
theorem dgo_head (f v : Nat) (acc : List Int) (h : v < 10 ^ f) (hf : 0 < f) (hv : 0 < v) : ∃ c l, dgo f v acc = c :: l ∧ c ≠ 48 := by
  induction f generalizing v acc with
  | zero => omega
  | succ f ih =>
    unfold dgo
    split
    · exact ⟨_, _, rfl, by omega⟩
    · rename_i h0
      have hf' : 0 < f := by
        rcases Nat.eq_zero_or_pos f with rfl | h'
        · simp at h; omega
        · exact h'
      exact ih (v / 10) _ (by rw [Nat.pow_succ] at h; omega) hf' (by omega)
theorem utoa_head (v : Nat) (h : v < 18446744073709551616) : (utoa v).length = 1 ∨ (utoa v).getD 0 0 ≠ 48 := by
  rcases Nat.eq_zero_or_pos v with rfl | hv
  · exact .inl rfl
  · obtain ⟨c, l, hc, hne⟩ := dgo_head 20 v [] (Nat.lt_of_lt_of_le h (by decide)) (by decide) hv
    right
    unfold utoa
    rw [hc]
    simpa using hne

theorem dv_cons (a : Int) (x : List Int) : dv (a :: x) = (a - 48).toNat * 10 ^ x.length + dv x := by
  have h : dv (a :: x) = dvF ((a - 48).toNat) x := by show dvF (0 * 10 + (a - 48).toNat) x = _; rw [Nat.zero_mul, Nat.zero_add]
  rw [h, dvF_mul]
theorem dv_lt (x : List Int) (h : AllDig x) : dv x < 10 ^ x.length := by
  induction x with
  | nil => simp [dv, dvF]
  | cons a x ih =>
    have ha := h a (by simp)
    have hx := ih (fun c hc => h c (by simp [hc]))
    rw [dv_cons, List.length_cons, Nat.pow_succ]
    have : (a - 48).toNat ≤ 9 := by omega
    have h2 : (a - 48).toNat * 10 ^ x.length ≤ 9 * 10 ^ x.length := Nat.mul_le_mul_right _ this
    omega
/-- A numeral: digits, at least one, no leading zero. -/
def Numeral (x : List Int) : Prop := AllDig x ∧ 0 < x.length ∧ (x.length = 1 ∨ x.getD 0 0 ≠ 48)
theorem dv_ge (x : List Int) (h : Numeral x) (h2 : 2 ≤ x.length) : 10 ^ (x.length - 1) ≤ dv x := by
  obtain ⟨h1, _, h3⟩ := h
  cases x with
  | nil => simp at h2
  | cons a x =>
    have ha := h1 a (by simp)
    have h4 : a ≠ 48 := by
      rcases h3 with h | h
      · simp at h; rw [h] at h2; simp at h2
      · simpa using h
    rw [dv_cons, List.length_cons, Nat.add_sub_cancel]
    have : 1 ≤ (a - 48).toNat := by omega
    have := Nat.mul_le_mul_right (10 ^ x.length) this
    omega


theorem isDig_iff (c : Int) : isDig c = true ↔ 48 ≤ c ∧ c ≤ 57 := by simp [isDig]
theorem utoa_numeral (v : Nat) (h : v < 18446744073709551616) : Numeral (utoa v) := ⟨utoa_dig v, (utoa_len v).1, utoa_head v h⟩

theorem dv_inj_len (x y : List Int) (h : x.length = y.length) (hx : AllDig x) (hy : AllDig y) (e : dv x = dv y) : x = y := by
  induction x generalizing y with
  | nil => cases y with
    | nil => rfl
    | cons _ _ => simp at h
  | cons a x ih =>
    cases y with
    | nil => simp at h
    | cons b y =>
      have hl : x.length = y.length := by simpa using h
      have ha := hx a (by simp)
      have hb := hy b (by simp)
      have hx' : AllDig x := fun c hc => hx c (by simp [hc])
      have hy' : AllDig y := fun c hc => hy c (by simp [hc])
      have lx := dv_lt x hx'
      have ly := dv_lt y hy'
      rw [dv_cons, dv_cons] at e
      rw [hl] at e lx
      generalize 10 ^ y.length = P at *
      obtain ⟨m, hm⟩ : ∃ m, m = (a - 48).toNat := ⟨_, rfl⟩
      obtain ⟨n, hn⟩ : ∃ n, n = (b - 48).toNat := ⟨_, rfl⟩
      rw [← hm, ← hn] at e
      have hmn : m = n := by
        rcases Nat.lt_trichotomy m n with h1 | h1 | h1
        · have := Nat.mul_le_mul_right P (show m + 1 ≤ n by omega)
          rw [Nat.add_mul] at this
          omega
        · exact h1
        · have := Nat.mul_le_mul_right P (show n + 1 ≤ m by omega)
          rw [Nat.add_mul] at this
          omega
      rw [hmn] at e
      rw [ih y hl hx' hy' (by omega), show a = b by omega]

theorem dv_inj (x y : List Int) (hx : Numeral x) (hy : Numeral y) (e : dv x = dv y) : x = y := by
  refine dv_inj_len x y ?_ hx.1 hy.1 e
  rcases Nat.lt_trichotomy x.length y.length with h | h | h
  · have a := dv_lt x hx.1
    have b := dv_ge y hy (by have := hx.2.1; omega)
    have c := Nat.pow_le_pow_right (show 0 < 10 by decide) (show x.length ≤ y.length - 1 by omega)
    omega
  · exact h
  · have a := dv_lt y hy.1
    have b := dv_ge x hx (by have := hy.2.1; omega)
    have c := Nat.pow_le_pow_right (show 0 < 10 by decide) (show y.length ≤ x.length - 1 by omega)
    omega

/-- What 'decimal' answers. -/
def DecP (L : List Int) : Prop := L = [48] ∨ (0 < L.length ∧ L.length ≤ 18 ∧ L.getD 0 0 ≠ 48 ∧ AllDig L)

theorem decP_iff (L : List Int) : DecP L ↔ Numeral L ∧ L.length ≤ 18 := by
  constructor
  · rintro (rfl | ⟨h1, h2, h3, h4⟩)
    · refine ⟨⟨?_, by simp, .inl rfl⟩, by simp⟩
      intro c hc; simp at hc; omega
    · exact ⟨⟨h4, h1, .inr h3⟩, h2⟩
  · rintro ⟨⟨h1, h2, h3⟩, h4⟩
    by_cases h : L.getD 0 0 = 48
    · left
      rcases h3 with h3 | h3
      · match L, h3, h with
        | [a], _, h => simp at h; rw [h]
      · exact absurd h h3
    · exact .inr ⟨h2, h4, h, h1⟩

theorem len18 (L : List Int) (h : Numeral L) : L.length ≤ 18 ↔ dv L < 1000000000000000000 := by
  constructor
  · intro h1
    have a := dv_lt L h.1
    have c := Nat.pow_le_pow_right (show 0 < 10 by decide) h1
    have e : (10 : Nat) ^ 18 = 1000000000000000000 := by decide
    omega
  · intro h1
    by_cases h2 : 19 ≤ L.length
    · have b := dv_ge L h (by omega)
      have c := Nat.pow_le_pow_right (show 0 < 10 by decide) (show 18 ≤ L.length - 1 by omega)
      have e : (10 : Nat) ^ 18 = 1000000000000000000 := by decide
      omega
    · omega

/-- The plain law of the first statement. -/
theorem dec_matches (L : List Int) (hd : AllDig L) (h19 : L.length ≤ 19) : DecP L ↔ dv L < 1000000000000000000 ∧ utoa (dv L) = L := by
  have hv : dv L < 18446744073709551616 := by
    have a := dv_lt L hd
    have c := Nat.pow_le_pow_right (show 0 < 10 by decide) h19
    have e : (10 : Nat) ^ 19 = 10000000000000000000 := by decide
    omega
  rw [decP_iff]
  constructor
  · rintro ⟨h, h18⟩
    exact ⟨(len18 L h).1 h18, dv_inj _ _ (utoa_numeral _ hv) h (utoa_dv _ hv)⟩
  · rintro ⟨h, e⟩
    have hn : Numeral L := by rw [← e]; exact utoa_numeral _ hv
    exact ⟨hn, (len18 L hn).2 h⟩

/-- The plain law of the second statement. -/
theorem dec_render (v : Nat) (hv : v < 18446744073709551616) : DecP (utoa v) ↔ v < 1000000000000000000 := by
  rw [decP_iff]
  have hn := utoa_numeral v hv
  rw [len18 _ hn, utoa_dv v hv]
  exact ⟨fun h => h.2, fun h => ⟨hn, h⟩⟩
theorem dec_minus (l : List Int) : ¬ DecP (45 :: l) := by
  rintro (h | ⟨_, _, _, h⟩)
  · simp at h
  · have := h 45 (by simp); omega

end Go.Proofs.Qxb6602743a
