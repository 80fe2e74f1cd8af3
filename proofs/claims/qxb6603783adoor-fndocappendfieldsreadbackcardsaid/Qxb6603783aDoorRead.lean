/-
  WALK: docB1readString, at a text that holds what appendString writes.
-/
import Derived.Test.Qxb6603783aDoorAppend
namespace Go.Proofs.Qxb6603783aDoor
open Go.RowKit

/-- Where the reader stands behind k bytes of s. -/
def rdAt (p : Nat) (s : ByteArray) (k : Nat) : Nat := p + 1 + (encBody ((nums s).take k)).length
theorem rdAt_zero (p : Nat) (s : ByteArray) : rdAt p s 0 = p + 1 := by simp [rdAt, encBody_nil]
theorem rdAt_succ (p : Nat) (s : ByteArray) (k : Nat) (h : k < s.size) : rdAt p s (k + 1) = rdAt p s k + (encB ((s[k]).toNat : Int)).length := by
  unfold rdAt; rw [body_snoc s k h, List.length_append]; omega
theorem rdAt_drop (pre post : List Int) (s : ByteArray) (k : Nat) :
    (pre ++ encStr (nums s) ++ post).drop (rdAt pre.length s k) = encBody ((nums s).drop k) ++ (34 :: post) := by
  have e : pre ++ encStr (nums s) ++ post = (pre ++ (34 :: encBody ((nums s).take k))) ++ (encBody ((nums s).drop k) ++ (34 :: post)) := by
    have : encBody (nums s) = encBody ((nums s).take k) ++ encBody ((nums s).drop k) := by rw [← encBody_append, List.take_append_drop]
    simp [encStr, this]
  have hl : rdAt pre.length s k = (pre ++ (34 :: encBody ((nums s).take k))).length := by simp [rdAt]; omega
  rw [e, hl, List.drop_left]
theorem rdAt_next (pre post : List Int) (s : ByteArray) (k : Nat) (hk : k < s.size) :
    ∃ R, (pre ++ encStr (nums s) ++ post).drop (rdAt pre.length s k) = encB ((s[k]).toNat : Int) ++ R := by
  refine ⟨encBody ((nums s).drop (k + 1)) ++ (34 :: post), ?_⟩
  rw [rdAt_drop pre post s k, nums_drop s k hk, encBody_cons, List.append_assoc]
theorem rdAt_end (pre post : List Int) (s : ByteArray) (k : Nat) (hk : k = s.size) :
    (pre ++ encStr (nums s) ++ post).drop (rdAt pre.length s k) = 34 :: post := by
  rw [rdAt_drop pre post s k, List.drop_of_length_le (by rw [nums_len]; omega), encBody_nil]; rfl

/-- What stands at q + i, out of what stands from q on. -/
theorem get_of_drop {Z E R : List Int} {q : Nat} (h : Z.drop q = E ++ R) (i : Nat) (hi : i < E.length) : q + i < Z.length ∧ Z.getD (q + i) 0 = E.getD i 0 := by
  have h1 := congrArg List.length h
  rw [List.length_drop, List.length_append] at h1
  refine ⟨by omega, ?_⟩
  have h2 := congrArg (fun l => l[i]?) h
  simp only [List.getElem?_drop, List.getElem?_append_left hi] at h2
  simp only [List.getD, h2]

theorem body_ge (l : List Int) : l.length ≤ (encBody l).length := by
  induction l with
  | nil => simp
  | cons c l ih =>
    rw [encBody_cons, List.length_append, List.length_cons]
    have := encB_len c
    omega

theorem or_low (n : Nat) (h : n < 32) : bits .or .u8 ((n : Int) / 16 * 16) ((n : Int) % 16) = (n : Int) := by
  have key : ∀ m : Fin 32, (m.val / 16 * 16) ||| (m.val % 16) = m.val := by decide
  have := u8_or_nat (n / 16 * 16) (n % 16) (by omega) (by omega)
  rw [key ⟨n, h⟩] at this
  rw [show ((n : Int) / 16 * 16) = ((n / 16 * 16 : Nat) : Int) from by omega, show ((n : Int) % 16) = ((n % 16 : Nat) : Int) from by omega]
  exact this

set_option maxRecDepth 100000 in
set_option maxHeartbeats 1000000 in
theorem read_any (b off n c p : Nat) (pre post : List Int) (s : ByteArray) (w : World) (hp : pre.length = p) (hn : (pre ++ encStr (nums s) ++ post).length = n) (hmax : n ≤ 140737488355328)
    (hrd : ∀ j, j < n → w.cell? ⟨b, off + j, none⟩ = some (.int .u8 ((pre ++ encStr (nums s) ++ post).getD j 0))) :
    Calls Tryd.prog 12 #[.slice (some ⟨b, off, none⟩) n c, .int .i64 p, .string s] w fun e w' => e = .returned (.tuple #[.int .i64 ((p + (encStr (nums s)).length : Nat) : Int), .bool true]) ∧ w' = w := by
  obtain ⟨E, hE⟩ : ∃ E, E = p + (encStr (nums s)).length := ⟨_, rfl⟩
  rw [← hE]
  have HE : Hid _ := hE
  have h0 : p < n ∧ (pre ++ encStr (nums s) ++ post).getD p 0 = 34 := by
    have := get_of_drop (Z := pre ++ encStr (nums s) ++ post) (E := encStr (nums s)) (R := post) (q := p) (by rw [← hp, List.append_assoc, List.drop_left]) 0 (by simp [encStr])
    rw [hn, Nat.add_zero] at this
    exact this
  have c0 := hrd p h0.1
  rw [h0.2] at c0
  have hpn := h0.1
  obtain ⟨Z, hZ⟩ : ∃ Z, Z = pre ++ encStr (nums s) ++ post := ⟨_, rfl⟩
  have HZ : Hid _ := hZ
  have HP : Hid _ := hp
  have HN : Hid _ := hn
  rw [← hZ] at hrd
  have HRD : Hid _ := hrd
  have hss : s.size ≤ 140737488355328 := by
    have h1 := HN.out
    have h2 := body_ge (nums s)
    rw [nums_len] at h2
    rw [List.length_append, List.length_append, encStr_len] at h1
    omega
  have hd1 : decide ((p : Int) < 0) = false := decide_eq_false (by omega)
  have hd2 : decide (n ≤ p) = false := decide_eq_false (by omega)
  clear hE h0 hZ hp hn hrd
  go_enter Tryd.func12, Tryd.ntmps12
  go_wp2
  go_loop [1, 8] (fun u i => ∃ k : Nat, k ≤ s.size ∧ u = .int .i64 (rdAt p s k : Nat) ∧ i = .int .i64 k) (fun _ i => s.size - (intOf i).toNat)
  case atStart => exact ⟨0, Nat.zero_le _, by rw [rdAt_zero]; go_num, rfl⟩
  case round =>
    obtain ⟨k, hk, rfl, rfl⟩ := hrel
    have hrd := HRD.out
    clear c0 hpn
    by_cases hlt : k < s.size
    · obtain ⟨R, hR⟩ := rdAt_next pre post s k hlt
      rw [HP.out, ← HZ.out] at hR
      have hs := rdAt_succ p s k hlt
      have hcl : ∀ i v, (encB ((s[k]).toNat : Int))[i]? = some v → rdAt p s k + i < n ∧ w.cell? ⟨b, off + (rdAt p s k + i), none⟩ = some (.int .u8 v) := by
        intro i v hv
        obtain ⟨hi, rfl⟩ := List.getElem?_eq_some_iff.1 hv
        have hg := get_of_drop hR i hi
        rw [HZ.out, HN.out, ← HZ.out] at hg
        refine ⟨hg.1, ?_⟩
        rw [hrd _ hg.1, hg.2]
        simp [List.getD, hi]
      obtain ⟨q, hq⟩ : ∃ q, q = rdAt p s k := ⟨_, rfl⟩
      rw [← hq] at hs hcl ⊢
      have HS : Hid _ := hs
      have hby := byte_lt s k hlt
      clear hR hs hq hrd
      by_cases h34 : ((s[k]).toNat : Int) = 34
      · have e : encB ((s[k]).toNat : Int) = [92, 34] := by rw [h34]; rfl
        rw [e] at hcl
        have HS1 : Hid (rdAt p s (k + 1) = q + 2) := by
          have := HS.out; rw [e] at this; exact this
        obtain ⟨l0, d0⟩ := hcl 0 _ rfl
        obtain ⟨l1, d1⟩ := hcl 1 _ rfl
        clear hcl e HS
        simp only [Nat.add_zero] at l0 d0
        go_wp2
        go_round
        case rel => exact ⟨k + 1, by omega, by rw [HS1.out]; go_num, by go_num⟩
        case measure => simp [intOf]; omega
      by_cases h92 : ((s[k]).toNat : Int) = 92
      · have e : encB ((s[k]).toNat : Int) = [92, 92] := by rw [h92]; rfl
        rw [e] at hcl
        have HS1 : Hid (rdAt p s (k + 1) = q + 2) := by
          have := HS.out; rw [e] at this; exact this
        obtain ⟨l0, d0⟩ := hcl 0 _ rfl
        obtain ⟨l1, d1⟩ := hcl 1 _ rfl
        clear hcl e HS
        simp only [Nat.add_zero] at l0 d0
        go_wp2
        go_round
        case rel => exact ⟨k + 1, by omega, by rw [HS1.out]; go_num, by go_num⟩
        case measure => simp [intOf]; omega
      by_cases h10 : ((s[k]).toNat : Int) = 10
      · have e : encB ((s[k]).toNat : Int) = [92, 110] := by rw [h10]; rfl
        rw [e] at hcl
        have HS1 : Hid (rdAt p s (k + 1) = q + 2) := by
          have := HS.out; rw [e] at this; exact this
        obtain ⟨l0, d0⟩ := hcl 0 _ rfl
        obtain ⟨l1, d1⟩ := hcl 1 _ rfl
        clear hcl e HS
        simp only [Nat.add_zero] at l0 d0
        go_wp2
        go_round
        case rel => exact ⟨k + 1, by omega, by rw [HS1.out]; go_num, by go_num⟩
        case measure => simp [intOf]; omega
      by_cases h13 : ((s[k]).toNat : Int) = 13
      · have e : encB ((s[k]).toNat : Int) = [92, 114] := by rw [h13]; rfl
        rw [e] at hcl
        have HS1 : Hid (rdAt p s (k + 1) = q + 2) := by
          have := HS.out; rw [e] at this; exact this
        obtain ⟨l0, d0⟩ := hcl 0 _ rfl
        obtain ⟨l1, d1⟩ := hcl 1 _ rfl
        clear hcl e HS
        simp only [Nat.add_zero] at l0 d0
        go_wp2
        go_round
        case rel => exact ⟨k + 1, by omega, by rw [HS1.out]; go_num, by go_num⟩
        case measure => simp [intOf]; omega
      by_cases h9 : ((s[k]).toNat : Int) = 9
      · have e : encB ((s[k]).toNat : Int) = [92, 116] := by rw [h9]; rfl
        rw [e] at hcl
        have HS1 : Hid (rdAt p s (k + 1) = q + 2) := by
          have := HS.out; rw [e] at this; exact this
        obtain ⟨l0, d0⟩ := hcl 0 _ rfl
        obtain ⟨l1, d1⟩ := hcl 1 _ rfl
        clear hcl e HS
        simp only [Nat.add_zero] at l0 d0
        go_wp2
        go_round
        case rel => exact ⟨k + 1, by omega, by rw [HS1.out]; go_num, by go_num⟩
        case measure => simp [intOf]; omega
      by_cases h32 : ((s[k]).toNat : Int) < 32
      · have e : encB ((s[k]).toNat : Int) = [92, 117, 48, 48, hexd (((s[k]).toNat : Int) / 16), hexd (((s[k]).toNat : Int) % 16)] := by simp [encB, h34, h92, h10, h13, h9, h32]
        rw [e] at hcl
        have HS1 : Hid (rdAt p s (k + 1) = q + 6) := by
          have := HS.out; rw [e] at this; exact this
        obtain ⟨l0, d0⟩ := hcl 0 _ rfl
        obtain ⟨l1, d1⟩ := hcl 1 _ rfl
        obtain ⟨l2, d2⟩ := hcl 2 _ rfl
        obtain ⟨l3, d3⟩ := hcl 3 _ rfl
        obtain ⟨l4, d4⟩ := hcl 4 _ rfl
        obtain ⟨l5, d5⟩ := hcl 5 _ rfl
        clear hcl e HS
        simp only [Nat.add_zero] at l0 d0
        have hor := or_low (s[k]).toNat (by omega)
        have b10 : (((s[k]).toNat : Int) == 10) = false := by simpa using h10
        have b13 : (((s[k]).toNat : Int) == 13) = false := by simpa using h13
        have b9 : (((s[k]).toNat : Int) == 9) = false := by simpa using h9
        have b32 : decide (32 ≤ ((s[k]).toNat : Int)) = false := decide_eq_false (by omega)
        go_wp2_with fail
        refine (hex_any _ _ (((s[k]).toNat : Int) / 16) (by omega) (by omega) rfl).mono ?_
        rintro e w1 ⟨rfl, rfl⟩
        go_wp2_with fail
        refine (hex_any _ _ (((s[k]).toNat : Int) % 16) (by omega) (by omega) rfl).mono ?_
        rintro e w2 ⟨rfl, rfl⟩
        go_wp2
        go_round
        case rel => exact ⟨k + 1, by omega, by rw [HS1.out]; go_num, by go_num⟩
        case measure => simp [intOf]; omega
      · have e : encB ((s[k]).toNat : Int) = [((s[k]).toNat : Int)] := by simp [encB, h34, h92, h10, h13, h9, h32]
        rw [e] at hcl
        have HS1 : Hid (rdAt p s (k + 1) = q + 1) := by
          have := HS.out; rw [e] at this; exact this
        have d0 := (hcl 0 _ rfl)
        clear hcl e HS
        obtain ⟨l0, d0⟩ := d0
        simp only [Nat.add_zero] at l0 d0
        go_wp2
        go_round
        case rel => exact ⟨k + 1, by omega, by rw [HS1.out]; go_num, by go_num⟩
        case measure => simp [intOf]; omega
    · have hR := rdAt_end pre post s k (by omega)
      rw [HP.out, ← HZ.out] at hR
      have hg := get_of_drop (E := [34]) hR 0 (by simp)
      rw [HZ.out, HN.out, ← HZ.out] at hg
      have d0 := hrd _ hg.1
      rw [hg.2] at d0
      have l0 := hg.1
      have hend : rdAt p s k + 1 = E := by
        rw [HE.out, encStr_len]; unfold rdAt
        rw [List.take_of_length_le (by rw [nums_len]; omega)]; omega
      obtain ⟨q, hq⟩ : ∃ q, q = rdAt p s k := ⟨_, rfl⟩
      rw [← hq] at d0 l0 hend ⊢
      simp only [Nat.add_zero] at l0 d0
      have HEND : Hid _ := hend
      have hks : s.size ≤ k := by omega
      clear hR hg hend hq hrd
      go_wp2
      go_ret2
      refine ⟨?_, rfl⟩
      rw [← HEND.out]
      simp
      omega
end Go.Proofs.Qxb6603783aDoor
