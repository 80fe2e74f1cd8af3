/-
  PLAIN: numerals compared. No Go in sight.
-/
import Derived.Test.Qxb6603783aDoorDec
namespace Go.Proofs.Qxb6603783aDoor

theorem dv_cons (a : Int) (x : List Int) : dv (a :: x) = (a - 48).toNat * 10 ^ x.length + dv x := by
  have h : dv (a :: x) = dvF ((a - 48).toNat) x := by show dvF (0 * 10 + (a - 48).toNat) x = _; rw [Nat.zero_mul, Nat.zero_add]
  rw [h, dvF_mul]
theorem dv_lt (x : List Int) (h : AllDig x) : dv x < 10 ^ x.length := by
  induction x with
  | nil => simp [dv, dvF]
  | cons a x ih =>
    have ha := h a (by simp)
    have hx := ih (fun c hc => h c (by simp [hc]))
    rw [dv_cons, List.length_cons, Nat.pow_succ]
    have : (a - 48).toNat ≤ 9 := by omega
    have h2 : (a - 48).toNat * 10 ^ x.length ≤ 9 * 10 ^ x.length := Nat.mul_le_mul_right _ this
    omega
/-- A numeral: digits, at least one, no leading zero. -/
def Numeral (x : List Int) : Prop := AllDig x ∧ 0 < x.length ∧ (x.length = 1 ∨ x.getD 0 0 ≠ 48)
theorem dv_ge (x : List Int) (h : Numeral x) (h2 : 2 ≤ x.length) : 10 ^ (x.length - 1) ≤ dv x := by
  obtain ⟨h1, _, h3⟩ := h
  cases x with
  | nil => simp at h2
  | cons a x =>
    have ha := h1 a (by simp)
    have h4 : a ≠ 48 := by
      rcases h3 with h | h
      · simp at h; rw [h] at h2; simp at h2
      · simpa using h
    rw [dv_cons, List.length_cons, Nat.add_sub_cancel]
    have : 1 ≤ (a - 48).toNat := by omega
    have := Nat.mul_le_mul_right (10 ^ x.length) this
    omega

def lexGt : List Int → List Int → Bool
  | a :: x, b :: y => if a = b then lexGt x y else decide (b < a)
  | _, _ => false
def exc (D U : List Int) : Bool := if D.length = U.length then lexGt D U else decide (U.length < D.length)

theorem lexGt_iff (x y : List Int) (h : x.length = y.length) (hx : AllDig x) (hy : AllDig y) : lexGt x y = decide (dv y < dv x) := by
  induction x generalizing y with
  | nil => cases y with
    | nil => simp [lexGt]
    | cons _ _ => simp at h
  | cons a x ih =>
    cases y with
    | nil => simp at h
    | cons b y =>
      have hl : x.length = y.length := by simpa using h
      have ha := hx a (by simp)
      have hb := hy b (by simp)
      have hx' : AllDig x := fun c hc => hx c (by simp [hc])
      have hy' : AllDig y := fun c hc => hy c (by simp [hc])
      have e := ih y hl hx' hy'
      have lx := dv_lt x hx'
      have ly := dv_lt y hy'
      rw [hl] at lx
      unfold lexGt
      rw [dv_cons, dv_cons, hl]
      by_cases hab : a = b
      · rw [if_pos hab, e, hab, decide_eq_decide]; omega
      · rw [if_neg hab, decide_eq_decide]
        generalize 10 ^ y.length = P at *
        obtain ⟨m, hm⟩ : ∃ m, m = (a - 48).toNat := ⟨_, rfl⟩
        obtain ⟨n, hn⟩ : ∃ n, n = (b - 48).toNat := ⟨_, rfl⟩
        rw [← hm, ← hn]
        rcases Nat.lt_trichotomy m n with h1 | h1 | h1
        · have := Nat.mul_le_mul_right P (show m + 1 ≤ n by omega)
          rw [Nat.add_mul] at this
          constructor <;> intro <;> omega
        · exfalso; omega
        · have := Nat.mul_le_mul_right P (show n + 1 ≤ m by omega)
          rw [Nat.add_mul] at this
          constructor <;> intro <;> omega

theorem exc_iff (D U : List Int) (hD : Numeral D) (hU : Numeral U) : exc D U = decide (dv U < dv D) := by
  unfold exc
  by_cases h : D.length = U.length
  · rw [if_pos h]; exact lexGt_iff D U h hD.1 hU.1
  · rw [if_neg h, decide_eq_decide]
    constructor
    · intro h1
      have a := dv_lt U hU.1
      have b := dv_ge D hD (by have := hU.2.1; omega)
      have c := Nat.pow_le_pow_right (show 0 < 10 by decide) (show U.length ≤ D.length - 1 by omega)
      omega
    · intro h1
      rcases Nat.lt_trichotomy D.length U.length with h2 | h2 | h2
      · have a := dv_lt D hD.1
        have b := dv_ge U hU (by have := hD.2.1; omega)
        have c := Nat.pow_le_pow_right (show 0 < 10 by decide) (show D.length ≤ U.length - 1 by omega)
        omega
      · exact absurd h2 h
      · exact h2

theorem lexGt_step (D U : List Int) (k : Nat) (h1 : k < D.length) (h2 : k < U.length) : lexGt (D.drop k) (U.drop k) = if D.getD k 0 = U.getD k 0 then lexGt (D.drop (k + 1)) (U.drop (k + 1)) else decide (U.getD k 0 < D.getD k 0) := by
  rw [List.drop_eq_getElem_cons h1, List.drop_eq_getElem_cons h2]
  conv => lhs; unfold lexGt
  simp [List.getD, h1, h2]
theorem lexGt_end (D U : List Int) (k : Nat) (h1 : D.length ≤ k) : lexGt (D.drop k) (U.drop k) = false := by
  rw [List.drop_of_length_le h1]; rfl

theorem utoa_numeral (v : Nat) (h : v < 18446744073709551616) : Numeral (utoa v) := ⟨utoa_dig v, (utoa_len v).1, utoa_head v h⟩

end Go.Proofs.Qxb6603783aDoor
