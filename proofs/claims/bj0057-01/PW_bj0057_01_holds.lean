import PyProof.Rows.All
import Wide.All
import OpenK.AllK
import Wide.FinOn
import Lean
import PySem.Challenge.RW_bj0057_01
set_option Elab.async false
set_option rowWalk.seconds 0
-- BJHead
namespace Mine
open PySem PySem.W PyProof.Rows
set_option maxRecDepth 100000 in
set_option maxHeartbeats 8000000 in
open_top hd for PySem.Challenge.rw_bj0057_01
end Mine
-- BJM
namespace Mine
open PySem PySem.W PySem.Calls PyProof.Rows
def bl (n : Nat) : Nat := if n = 0 then 0 else n.log2 + 1
def digit (x : Int) : Int := bl x.toNat
theorem half_eq (x : Int) (h : 0 ≤ x) : x.fdiv (2 ^ Int.toNat 1) = ((x.toNat / 2 : Nat) : Int) := by
  rw [Int.fdiv_eq_ediv_of_nonneg _ (by decide)]
  have : (2 ^ Int.toNat 1 : Int) = 2 := by decide
  rw [this]; omega
theorem bl_half (n : Nat) (h : n ≠ 0) : bl n = bl (n / 2) + 1 := by
  unfold bl
  rw [if_neg h]
  by_cases h2 : n / 2 = 0
  · rw [if_pos h2]
    have : n = 1 := by omega
    subst this; decide
  · rw [if_neg h2, Nat.log2_def n, if_pos (by omega)]
theorem digit_state {x d g : Int} (h0 : 0 ≤ d) (hne : d ≠ 0) (e : g + digit d = digit x) :
    0 ≤ d.fdiv (2 ^ Int.toNat 1) ∧ g + 1 + digit (d.fdiv (2 ^ Int.toNat 1)) = digit x := by
  rw [half_eq d h0]
  refine ⟨by omega, ?_⟩
  unfold digit at *
  rw [bl_half d.toNat (by omega)] at e
  rw [Int.toNat_natCast]
  omega
theorem digit_meas {d : Int} (h0 : 0 ≤ d) (hne : d ≠ 0) : (d.fdiv (2 ^ Int.toNat 1)).toNat < d.toNat := by
  rw [half_eq d h0]; omega
theorem digit_zero {x d g : Int} (e : g + digit d = digit x) (hd : d = 0) : g = digit x := by
  subst hd
  have : digit 0 = 0 := by decide
  omega
end Mine
-- BJM2
namespace Mine
open PySem PySem.W PySem.Calls PyProof.Rows
def M1 : List Nat := [0, 1335, 2670, 3929, 4587, 5340, 7045, 7858, 9174, 9953, 10680, 11407, 12861, 14090, 14419, 15716, 17051, 18348, 18677, 19906, 21360, 22087, 22814, 23593, 24909, 25722, 27427, 28180, 28838, 30097, 31432, 32767]
def M2 : List Nat := [0, 7973, 8559, 15946, 17118, 24059, 25521, 31892, 34236, 39577, 42195, 48118, 51042, 55367, 58893, 63784, 68472, 70749, 76311, 79154, 84390, 87683, 92361, 96236, 102084, 102881, 110507, 110734, 117786, 119615, 126325, 127568, 133589, 136944, 141498, 145311, 150283, 152622, 158308, 161089, 167017, 168780, 175366, 176675, 183991, 184722, 192472, 192765, 197293, 204168, 205762, 212199, 213107, 221014, 221468, 228921, 231185, 235572, 239230, 244059, 247247, 252650, 255136, 260997]
theorem xor_mod2 (a b : Nat) : (a ^^^ b) % 2 = (a + b) % 2 := by
  have h := Nat.xor_mod_two_pow (a := a) (b := b) (n := 1)
  simp only [Nat.pow_one] at h
  have h2 : ∀ x < 2, ∀ y < 2, x ^^^ y = (x + y) % 2 := by decide
  rw [h, h2 _ (Nat.mod_lt _ (by decide)) _ (Nat.mod_lt _ (by decide)), ← Nat.add_mod]
theorem xor_and_add : ∀ (n a b : Nat), a < 2 ^ n → b < 2 ^ n → (a ^^^ b) + 2 * (a &&& b) = a + b
  | 0, a, b, ha, hb => by
    have : a = 0 := by simpa using ha
    have : b = 0 := by simpa using hb
    subst_vars; rfl
  | n + 1, a, b, ha, hb => by
    have ih := xor_and_add n (a / 2) (b / 2) (by omega) (by omega)
    rw [← Nat.xor_div_two, ← Nat.and_div_two] at ih
    have h1 : (a ^^^ b) % 2 = (a + b) % 2 := xor_mod2 a b
    have h2 : (a &&& b) % 2 = (a % 2) * (b % 2) := by
      have := Nat.and_mod_two_pow (a := a) (b := b) (n := 1)
      simp only [Nat.pow_one] at this
      rw [this]
      rcases Nat.mod_two_eq_zero_or_one a with h | h <;> rcases Nat.mod_two_eq_zero_or_one b with h' | h' <;> rw [h, h'] <;> rfl
    rcases Nat.mod_two_eq_zero_or_one a with h | h <;> rcases Nat.mod_two_eq_zero_or_one b with h' | h' <;> rw [h, h'] at h2 <;> omega
theorem xor_nat (a b : Nat) : Builtin.bitXor a b = ((a ^^^ b : Nat) : Int) := by
  rw [bitXor_and, bitAnd_pp (by omega) (by omega), Int.toNat_natCast, Int.toNat_natCast]
  have ha : a < 2 ^ (a + b) := Nat.lt_of_lt_of_le Nat.lt_two_pow_self (Nat.pow_le_pow_right (by decide) (by omega))
  have hb : b < 2 ^ (a + b) := Nat.lt_of_lt_of_le Nat.lt_two_pow_self (Nat.pow_le_pow_right (by decide) (by omega))
  have := xor_and_add (a + b) a b ha hb
  omega
theorem xor_int' {x y : Int} (hx : 0 ≤ x) (hy : 0 ≤ y) : Builtin.bitXor x y = ((x.toNat ^^^ y.toNat : Nat) : Int) := by
  have := xor_nat x.toNat y.toNat
  rwa [Int.toNat_of_nonneg hx, Int.toNat_of_nonneg hy] at this
/-- the number of ones among the lowest `f` bits -/
def pcF : Nat → Nat → Nat
  | 0, _ => 0
  | f + 1, n => n % 2 + pcF f (n / 2)
def pc (n : Nat) : Nat := pcF 18 n
theorem pcF_zero : ∀ f, pcF f 0 = 0
  | 0 => rfl
  | f + 1 => by show 0 % 2 + pcF f (0 / 2) = 0; rw [Nat.zero_div, pcF_zero f]
theorem and_mod2 (a b : Nat) : (a &&& b) % 2 = (a % 2) * (b % 2) := by
  have := Nat.and_mod_two_pow (a := a) (b := b) (n := 1)
  simp only [Nat.pow_one] at this
  rw [this]
  rcases Nat.mod_two_eq_zero_or_one a with h | h <;> rcases Nat.mod_two_eq_zero_or_one b with h' | h' <;> rw [h, h'] <;> rfl
theorem pcF_drop : ∀ (f n : Nat), n < 2 ^ f → 0 < n → pcF f (n &&& (n - 1)) + 1 = pcF f n
  | 0, n, h, h0 => by simp at h; omega
  | f + 1, n, h, h0 => by
    show (n &&& (n - 1)) % 2 + pcF f ((n &&& (n - 1)) / 2) + 1 = n % 2 + pcF f (n / 2)
    rw [Nat.and_div_two, and_mod2]
    rcases Nat.mod_two_eq_zero_or_one n with h1 | h1
    · have e : (n - 1) / 2 = n / 2 - 1 := by omega
      rw [h1, e]
      have := pcF_drop f (n / 2) (by omega) (by omega)
      omega
    · have e : (n - 1) / 2 = n / 2 := by omega
      have e2 : (n - 1) % 2 = 0 := by omega
      rw [h1, e, e2, Nat.and_self]; omega
theorem pcF_xor : ∀ (f a b : Nat), pcF f (a ^^^ b) ≤ pcF f a + pcF f b
  | 0, _, _ => Nat.le_refl _
  | f + 1, a, b => by
    show (a ^^^ b) % 2 + pcF f ((a ^^^ b) / 2) ≤ a % 2 + pcF f (a / 2) + (b % 2 + pcF f (b / 2))
    rw [Nat.xor_div_two]
    have ih := pcF_xor f (a / 2) (b / 2)
    have h1 : (a ^^^ b) % 2 = (a + b) % 2 := xor_mod2 a b
    omega
theorem and_pred_lt {n : Nat} (h : 0 < n) : n &&& (n - 1) < n := Nat.lt_of_le_of_lt Nat.and_le_right (by omega)
theorem pcF_eq : ∀ (f f' n : Nat), n < 2 ^ f → n < 2 ^ f' → pcF f n = pcF f' n
  | 0, f', n, h, _ => by
    have : n = 0 := by simpa using h
    subst this
    rw [pcF_zero, pcF_zero]
  | f + 1, 0, n, _, h => by
    have : n = 0 := by simpa using h
    subst this
    rw [pcF_zero, pcF_zero]
  | f + 1, f' + 1, n, h, h' => by
    show n % 2 + pcF f (n / 2) = n % 2 + pcF f' (n / 2)
    rw [pcF_eq f f' (n / 2) (by omega) (by omega)]
theorem lt_two_bl (n : Nat) : n < 2 ^ bl n := by
  unfold bl
  by_cases h : n = 0
  · subst h; decide
  · rw [if_neg h]; exact Nat.lt_log2_self
/-- the number of ones of any number -/
def pcU (n : Nat) : Nat := pcF (bl n) n
theorem pcU_of_lt {n : Nat} (h : n < 262144) : pcU n = pc n := pcF_eq _ _ _ (lt_two_bl n) h
theorem pcU_drop {n : Nat} (h : 0 < n) : pcU (n &&& (n - 1)) + 1 = pcU n := by
  have h1 := pcF_drop (bl n) n (lt_two_bl n) h
  have h2 : n &&& (n - 1) < 2 ^ bl n := Nat.lt_of_le_of_lt Nat.and_le_left (lt_two_bl n)
  have h3 : pcU (n &&& (n - 1)) = pcF (bl n) (n &&& (n - 1)) := pcF_eq _ _ _ (lt_two_bl _) h2
  rw [h3]; exact h1
/-- what `_law_apart` hands back -/
@[irreducible] def apartF (x y : Int) : Int := pcU (Builtin.bitXor x y).toNat
theorem apart_start (x y : Int) : 0 + (pcU (Builtin.bitXor x y).toNat : Int) = apartF x y := by
  unfold apartF; omega
theorem apart_turn {x y b g : Int} (e : g + (pcU b.toNat : Int) = apartF x y) (hp : 0 < b) : g + 1 + (pcU (Builtin.bitAnd b (b - 1)).toNat : Int) = apartF x y := by
  rw [bitAnd_pp (by omega) (by omega), Int.toNat_natCast, show (b - 1).toNat = b.toNat - 1 by omega]
  have h2 := pcU_drop (n := b.toNat) (by omega)
  omega
theorem apart_meas {b : Int} (hp : 0 < b) : (Builtin.bitAnd b (b - 1)).toNat < b.toNat := by
  rw [bitAnd_pp (by omega) (by omega), Int.toNat_natCast, show (b - 1).toNat = b.toNat - 1 by omega]
  exact and_pred_lt (by omega)
theorem apart_end {x y b g : Int} (e : g + (pcU b.toNat : Int) = apartF x y) (hp : b ≤ 0) : g = apartF x y := by
  have h0 : b.toNat = 0 := by omega
  have : pcU 0 = 0 := by decide
  rw [h0, this] at e
  omega
theorem apart_nat {a b : Nat} (ha : a < 262144) (hb : b < 262144) : apartF a b = (pc (a ^^^ b) : Int) := by
  unfold apartF
  rw [xor_nat, Int.toNat_natCast, pcU_of_lt]
  exact Nat.xor_lt_two_pow (n := 18) ha hb
/-- the turns of BCH_type_info's loop, and of BCH_type_number's -/
def bchStep (gen d : Int) : Int := if 0 ≤ digit d - digit gen then Builtin.bitXor d (gen * 2 ^ (digit d - digit gen).toNat) else d
def bchOrb (gen d0 : Int) : Nat → Int
  | 0 => d0
  | i + 1 => bchStep gen (bchOrb gen d0 i)
@[irreducible] def infoV (x : Int) : Int := ((M1.getD x.toNat 0 ^^^ 21522 : Nat) : Int)
@[irreducible] def numberV (x : Int) : Int := ((M2.getD x.toNat 0 : Nat) : Int)
set_option maxRecDepth 100000 in
theorem info_facts : ∀ n : Nat, n < 32 → ∀ i : Nat, i < 6 → 0 ≤ bchOrb 1335 ((n : Int) * 2 ^ Int.toNat 10) i ∧
    (0 ≤ digit (bchOrb 1335 ((n : Int) * 2 ^ Int.toNat 10) i) - digit 1335 → i < 5 ∧ (bchOrb 1335 ((n : Int) * 2 ^ Int.toNat 10) (i + 1)).toNat < (bchOrb 1335 ((n : Int) * 2 ^ Int.toNat 10) i).toNat) ∧
    (¬ 0 ≤ digit (bchOrb 1335 ((n : Int) * 2 ^ Int.toNat 10) i) - digit 1335 → Builtin.bitXor (Builtin.bitOr ((n : Int) * 2 ^ Int.toNat 10) (bchOrb 1335 ((n : Int) * 2 ^ Int.toNat 10) i)) 21522 = infoV n) := by decide +kernel
set_option maxRecDepth 100000 in
theorem number_facts : ∀ n : Nat, n < 64 → ∀ i : Nat, i < 7 → 0 ≤ bchOrb 7973 ((n : Int) * 2 ^ Int.toNat 12) i ∧
    (0 ≤ digit (bchOrb 7973 ((n : Int) * 2 ^ Int.toNat 12) i) - digit 7973 → i < 6 ∧ (bchOrb 7973 ((n : Int) * 2 ^ Int.toNat 12) (i + 1)).toNat < (bchOrb 7973 ((n : Int) * 2 ^ Int.toNat 12) i).toNat) ∧
    (¬ 0 ≤ digit (bchOrb 7973 ((n : Int) * 2 ^ Int.toNat 12) i) - digit 7973 → Builtin.bitOr ((n : Int) * 2 ^ Int.toNat 12) (bchOrb 7973 ((n : Int) * 2 ^ Int.toNat 12) i) = numberV n) := by decide +kernel
def InfoP (x d : Int) : Prop := ∃ i : Nat, i < 6 ∧ d = bchOrb 1335 (x * 2 ^ Int.toNat 10) i
def NumberP (x d : Int) : Prop := ∃ i : Nat, i < 7 ∧ d = bchOrb 7973 (x * 2 ^ Int.toNat 12) i
theorem info_start (x : Int) (h0 : 0 ≤ x) (h1 : x < 32) : 0 ≤ x * 2 ^ Int.toNat 10 ∧ InfoP x (x * 2 ^ Int.toNat 10) := by
  refine ⟨?_, 0, by decide, rfl⟩
  have : (2 ^ Int.toNat 10 : Int) = 1024 := by decide
  rw [this]; omega
theorem info_turn {x d : Int} (h0 : 0 ≤ x) (h1 : x < 32) (h : InfoP x d) (c : 0 ≤ digit d - digit 1335) :
    (0 ≤ Builtin.bitXor d (1335 * 2 ^ (digit d - digit 1335).toNat) ∧ InfoP x (Builtin.bitXor d (1335 * 2 ^ (digit d - digit 1335).toNat))) ∧
    (Builtin.bitXor d (1335 * 2 ^ (digit d - digit 1335).toNat)).toNat < d.toNat := by
  obtain ⟨i, hi, rfl⟩ := h
  have f := info_facts x.toNat (by omega) i hi
  rw [Int.toNat_of_nonneg h0] at f
  obtain ⟨f1, f2, _⟩ := f
  obtain ⟨g1, g2⟩ := f2 c
  have e : bchOrb 1335 (x * 2 ^ Int.toNat 10) (i + 1) = Builtin.bitXor (bchOrb 1335 (x * 2 ^ Int.toNat 10) i) (1335 * 2 ^ (digit (bchOrb 1335 (x * 2 ^ Int.toNat 10) i) - digit 1335).toNat) := if_pos c
  rw [← e]
  have k := (info_facts x.toNat (by omega) (i + 1) (by omega)).1
  rw [Int.toNat_of_nonneg h0] at k
  exact ⟨⟨k, i + 1, by omega, rfl⟩, g2⟩
theorem info_end {x d : Int} (h0 : 0 ≤ x) (h1 : x < 32) (h : InfoP x d) (c : ¬ 0 ≤ digit d - digit 1335) :
    Builtin.bitXor (Builtin.bitOr (x * 2 ^ Int.toNat 10) d) 21522 = infoV x := by
  obtain ⟨i, hi, rfl⟩ := h
  have f := info_facts x.toNat (by omega) i hi
  rw [Int.toNat_of_nonneg h0] at f
  exact f.2.2 c
theorem number_start (x : Int) (h0 : 0 ≤ x) (h1 : x < 64) : 0 ≤ x * 2 ^ Int.toNat 12 ∧ NumberP x (x * 2 ^ Int.toNat 12) := by
  refine ⟨?_, 0, by decide, rfl⟩
  have : (2 ^ Int.toNat 12 : Int) = 4096 := by decide
  rw [this]; omega
theorem number_turn {x d : Int} (h0 : 0 ≤ x) (h1 : x < 64) (h : NumberP x d) (c : 0 ≤ digit d - digit 7973) :
    (0 ≤ Builtin.bitXor d (7973 * 2 ^ (digit d - digit 7973).toNat) ∧ NumberP x (Builtin.bitXor d (7973 * 2 ^ (digit d - digit 7973).toNat))) ∧
    (Builtin.bitXor d (7973 * 2 ^ (digit d - digit 7973).toNat)).toNat < d.toNat := by
  obtain ⟨i, hi, rfl⟩ := h
  have f := number_facts x.toNat (by omega) i hi
  rw [Int.toNat_of_nonneg h0] at f
  obtain ⟨f1, f2, _⟩ := f
  obtain ⟨g1, g2⟩ := f2 c
  have e : bchOrb 7973 (x * 2 ^ Int.toNat 12) (i + 1) = Builtin.bitXor (bchOrb 7973 (x * 2 ^ Int.toNat 12) i) (7973 * 2 ^ (digit (bchOrb 7973 (x * 2 ^ Int.toNat 12) i) - digit 7973).toNat) := if_pos c
  rw [← e]
  have k := (number_facts x.toNat (by omega) (i + 1) (by omega)).1
  rw [Int.toNat_of_nonneg h0] at k
  exact ⟨⟨k, i + 1, by omega, rfl⟩, g2⟩
theorem number_end {x d : Int} (h0 : 0 ≤ x) (h1 : x < 64) (h : NumberP x d) (c : ¬ 0 ≤ digit d - digit 7973) :
    Builtin.bitOr (x * 2 ^ Int.toNat 12) d = numberV x := by
  obtain ⟨i, hi, rfl⟩ := h
  have f := number_facts x.toNat (by omega) i hi
  rw [Int.toNat_of_nonneg h0] at f
  exact f.2.2 c
set_option maxRecDepth 100000 in
theorem info_digits : ∀ n : Nat, n < 32 → ∀ i : Nat, i < 6 → digit (bchOrb 1335 ((n : Int) * 2 ^ Int.toNat 10) i) ≤ 20 := by decide +kernel
set_option maxRecDepth 100000 in
theorem number_digits : ∀ n : Nat, n < 64 → ∀ i : Nat, i < 7 → digit (bchOrb 7973 ((n : Int) * 2 ^ Int.toNat 12) i) ≤ 20 := by decide +kernel
theorem info_small {x d : Int} (h : InfoP x d) (h0 : 0 ≤ x) (h1 : x < 32) : digit d - digit 1335 ≤ 1000000 := by
  obtain ⟨i, hi, rfl⟩ := h
  have f := info_digits x.toNat (by omega) i hi
  rw [Int.toNat_of_nonneg h0] at f
  have : digit 1335 = 11 := by decide
  omega
theorem number_small {x d : Int} (h : NumberP x d) (h0 : 0 ≤ x) (h1 : x < 64) : digit d - digit 7973 ≤ 1000000 := by
  obtain ⟨i, hi, rfl⟩ := h
  have f := number_digits x.toNat (by omega) i hi
  rw [Int.toNat_of_nonneg h0] at f
  have : digit 7973 = 13 := by decide
  omega
end Mine
namespace Mine
open PySem PySem.W PySem.Calls PyProof.Rows
set_option maxRecDepth 100000 in
theorem pow1 : ∀ a : Nat, a < 18 → 2 ^ a < 262144 ∧ pc (2 ^ a) ≤ 3 := by decide +kernel
set_option maxRecDepth 100000 in
theorem pow2 : ∀ a : Nat, a < 18 → ∀ b : Nat, b < 18 → a ≠ b → 2 ^ a + 2 ^ b < 262144 ∧ pc (2 ^ a + 2 ^ b) ≤ 3 := by decide +kernel
set_option maxRecDepth 100000 in
def powOk (a b c : Nat) : Bool := a == b || a == c || b == c || (decide (2 ^ a + (2 ^ b + 2 ^ c) < 262144) && decide (pc (2 ^ a + (2 ^ b + 2 ^ c)) ≤ 3))
set_option maxRecDepth 100000 in
theorem pow3b : ∀ a : Nat, a < 18 → ∀ b : Nat, b < 18 → ∀ c : Nat, c < 18 → powOk a b c = true := by decide +kernel
theorem pow3 (a : Nat) (ha : a < 18) (b : Nat) (hb : b < 18) (c : Nat) (hc : c < 18) (h1 : a ≠ b) (h2 : a ≠ c) (h3 : b ≠ c) : 2 ^ a + (2 ^ b + 2 ^ c) < 262144 ∧ pc (2 ^ a + (2 ^ b + 2 ^ c)) ≤ 3 := by
  have h := pow3b a ha b hb c hc
  unfold powOk at h
  simpa [h1, h2, h3] using h
theorem flip0 : ∃ e : Nat, e < 262144 ∧ pc e ≤ 3 ∧ (0 : Int) = (e : Int) := ⟨0, by decide, by decide, rfl⟩
theorem flip1 {a z : Int} (a0 : 0 ≤ a) (a1 : a < z) (hz : z ≤ 18) : ∃ e : Nat, e < 262144 ∧ pc e ≤ 3 ∧ (2 : Int) ^ a.toNat + 0 = (e : Int) := by
  have h := pow1 a.toNat (by omega)
  exact ⟨2 ^ a.toNat, h.1, h.2, by simp⟩
theorem flip2 {a b z : Int} (a0 : 0 ≤ a) (a1 : a < z) (b0 : 0 ≤ b) (b1 : b < z) (hab : a ≠ b) (hz : z ≤ 18) : ∃ e : Nat, e < 262144 ∧ pc e ≤ 3 ∧ (2 : Int) ^ a.toNat + ((2 : Int) ^ b.toNat + 0) = (e : Int) := by
  have h := pow2 a.toNat (by omega) b.toNat (by omega) (by omega)
  exact ⟨2 ^ a.toNat + 2 ^ b.toNat, h.1, h.2, by simp⟩
theorem flip3 {a b c z : Int} (a0 : 0 ≤ a) (a1 : a < z) (b0 : 0 ≤ b) (b1 : b < z) (c0 : 0 ≤ c) (c1 : c < z) (hab : a ≠ b) (hac : a ≠ c) (hbc : b ≠ c) (hz : z ≤ 18) : ∃ e : Nat, e < 262144 ∧ pc e ≤ 3 ∧ (2 : Int) ^ a.toNat + ((2 : Int) ^ b.toNat + ((2 : Int) ^ c.toNat + 0)) = (e : Int) := by
  have h := pow3 a.toNat (by omega) b.toNat (by omega) c.toNat (by omega) (by omega) (by omega) (by omega)
  exact ⟨2 ^ a.toNat + (2 ^ b.toNat + 2 ^ c.toNat), h.1, h.2, by simp⟩
theorem nodup_snoc {ps : List Int} {v : Int} (h : ps.Nodup) (hv : (ps.any fun x => x == v) = false) : (ps ++ [v]).Nodup := by
  rw [List.nodup_append]
  refine ⟨h, by simp, ?_⟩
  intro a ha b hb
  rw [List.mem_singleton.mp hb]
  intro e
  subst e
  have := List.any_eq_false.mp hv a ha
  simp at this
theorem mem_snoc {ps : List Int} {v z : Int} (h : ∀ p ∈ ps, 0 ≤ p ∧ p < z) (v0 : 0 ≤ v) (v1 : v < z) : ∀ p ∈ ps ++ [v], 0 ≤ p ∧ p < z := by
  intro p hp
  rcases List.mem_append.mp hp with hp | hp
  · exact h p hp
  · rw [List.mem_singleton.mp hp]; exact ⟨v0, v1⟩
end Mine
-- BJK
namespace Mine
open PySem PySem.W PySem.Calls PyProof.Rows
/-- what the heap `h` holds outside `as` stands in `h'` -/
abbrev KeptBut (as : List Addr) (h h' : Heap) : Prop := ∀ b o, h.get? b = some o → b ∉ as → h'.get? b = some o
section
variable {prog : Program} {w : World} {A₀ A : Around} {s : Shared} {base h₀ : Heap} {outer : List Env} {L : Addr} {m mg mb : Str → Option Value} {env : Env} {own : List (Addr × Obj)} {K : Frag} {p : Program} {loose : List Str} {mean : ExcName → Option Value}
  {R : PySem.Result → Shared → Prop} {name qual : Str} {params : Arguments} {body : List Stmt} {scope : Scope} {dV kV doc pm cdv ct oc : Value} {an od : Option Addr} {osl : Array (Option Value)} {f : Addr} {args : Args} {binds : List (Str × Value)}
theorem enterG (B : Below A₀ base outer h₀) (F : Fr h₀ L s.heap m) (X₀ : K.In h₀) (O : News h₀ L s.heap own) (T : Top p loose mean mg mb h₀)
    (hA : A.frames = some (env :: outer)) (hf : env.frame = some L) (hke : env.scope.kind = .function)
    (ho : K.lookup f = some ⟨oc, od, .func (fnOf name qual params body scope dV kV doc pm an cdv ct), osl⟩) (hcd : codeIn K cdv qual = true) (hroom : A.depth < recursionLimit)
    (hbind : BindsTo s (fnOf name qual params body scope dV kV doc pm an cdv ct) args binds) (hloc : ∀ y ∈ binds, scope.names.lookup y.1 = some .local)
    (h : ∀ g L' h₁, Fr h₀ L g m → Fr g L' h₁ (fun y => binds.reverse.lookup y) → News g L' h₁ own → Below A base (env :: outer) g → K.In g → Top p loose mean mg mb g → KeptBut (own.map (·.1)) s.heap g → (∀ p ∈ own, p.1 < L') →
      wpAny (model prog w) (A.deeper (envOf qual scope L' f cdv)) (execs body (envOf qual scope L' f cdv))
        (fun fl s' => LeaveK h₀ L m g (fun r s' => KeptBut (own.map (·.1)) s.heap s'.heap → R r s') (match fl with | .ret v => v | _ => .none) s')
        (fun e s' => wpAny (model prog w) (A.deeper (envOf qual scope L' f cdv)) (leaving (envOf qual scope L' f cdv) e) (fun _ s'' => R (.error e) s'') (fun e' s'' => R (.error e') s'') s')
        { s with heap := h₁, toks := s.toks + binds.length })
    (hco : scope.isCoroutine = false) (hgen : scope.isGenerator = false) (hk : scope.kind = .function)
    (hcell : ∀ x ∈ scope.names, x.2 ≠ .cell) : codeAny (model prog w) A (.call (.ref f) args) R s := by
  obtain ⟨FG, BG, st, lv⟩ := groundX (R := fun r s' => KeptBut (own.map (·.1)) s.heap s'.heap → R r s') B F O hA hf hke
  have kg : KeptBut (own.map (·.1)) s.heap (hideAll s.heap (own.map (·.1))) := fun b o e hb => hideAll_get _ e hb
  refine codeAny_call_def (fd := fnOf name qual params body scope dV kV doc pm an cdv ct) (body := body) (binds := binds) hroom ((X₀.keeps F.keep) _ _ ho) rfl (T.nolimit.keeps F.keep) (codeRec_of (X₀.keeps F.keep) hcd) rfl hbind hcell hloc (fun h₁ hns hk₁ => ?_) hco hgen hk
  refine wpAny_mono (h _ s.heap.objs.size h₁ FG ⟨hns, fun b o e => hk₁ b o (of_hideAll _ e), Nat.le_of_eq (hideAll_size _ _)⟩
    (fun p hp => ⟨hk₁ _ _ (O p hp).1, Nat.ne_of_lt (Heap.lt_size (O p hp).1), hideAll_none _ (List.mem_map_of_mem hp)⟩) BG (X₀.keeps st) (T.keeps st) kg (fun p hp => Heap.lt_size (O p hp).1)) (fun fl s' hl => ?_) fun _ _ y => y
  have hl2 := hl
  obtain ⟨L', m', news', F', N', k⟩ := hl2
  exact lv _ _ hl fun b o e hb => F'.keep _ _ (kg _ _ e hb)
theorem enterGC (B : Below A₀ base outer h₀) (F : Fr h₀ L s.heap m) (X₀ : K.In h₀) (O : News h₀ L s.heap own) (T : Top p loose mean mg mb h₀)
    (hA : A.frames = some (env :: outer)) (hf : env.frame = some L) (hke : env.scope.kind = .function)
    (ho : K.lookup f = some ⟨oc, od, .func (fnOf name qual params body scope dV kV doc pm an cdv ct), osl⟩) (hcd : codeIn K cdv qual = true) (hroom : A.depth < recursionLimit)
    (hbind : BindsTo s (fnOf name qual params body scope dV kV doc pm an cdv ct) args binds) (hkind : (binds.all fun y => scope.names.lookup y.1 == some .local || scope.names.lookup y.1 == some .cell) = true)
    (hnd : ((cellsFrom 0 scope.names []).map (·.1)).Nodup)
    (h : ∀ g L' h₁ tk cells, Fr h₀ L g m → Fr g L' h₁ (bindL (envOfC qual scope L' f cdv).kindOf binds fun _ => none) → News g L' h₁ (cells ++ own) →
      CellsAre (bindC (envOfC qual scope L' f cdv).kindOf binds fun _ => none) (cellsFrom (L' + 1) scope.names []) cells → Below A base (env :: outer) g → K.In g → Top p loose mean mg mb g → KeptBut (own.map (·.1)) s.heap g → (∀ p ∈ own, p.1 < L') →
      wpAny (model prog w) (A.deeper (envOfC qual scope L' f cdv)) (execs body (envOfC qual scope L' f cdv))
        (fun fl s' => LeaveK h₀ L m g (fun r s' => KeptBut (own.map (·.1)) s.heap s'.heap → R r s') (match fl with | .ret v => v | _ => .none) s')
        (fun e s' => wpAny (model prog w) (A.deeper (envOfC qual scope L' f cdv)) (leaving (envOfC qual scope L' f cdv) e) (fun _ s'' => R (.error e) s'') (fun e' s'' => R (.error e') s'') s')
        { s with heap := h₁, toks := tk })
    (hco : scope.isCoroutine = false) (hgen : scope.isGenerator = false) (hk : scope.kind = .function) : codeAny (model prog w) A (.call (.ref f) args) R s := by
  obtain ⟨FG, BG, st, lv⟩ := groundX (R := fun r s' => KeptBut (own.map (·.1)) s.heap s'.heap → R r s') B F O hA hf hke
  have kg : KeptBut (own.map (·.1)) s.heap (hideAll s.heap (own.map (·.1))) := fun b o e hb => hideAll_get _ e hb
  refine codeAny_call_function (fd := fnOf name qual params body scope dV kV doc pm an cdv ct) hroom ((X₀.keeps F.keep) _ _ ho) rfl hco hgen rfl (codeRec_of (X₀.keeps F.keep) hcd) (hbind _ _ _ _ ?_)
  refine wpAny_newFunctionEnv_cells hk (kindsX hkind _) fun env' he s' x => ?_
  subst he
  refine ⟨(T.nolimit.keeps F.keep).keeps x.toInCall.keep, codeAny_func ?_⟩
  obtain ⟨h₁, tk, rfl, _⟩ := x.done
  have hk₁ := x.toInCall.keep
  obtain ⟨cells, NC, Y⟩ := Cl.news (h₀ := s.heap) (Nat.le_refl _) fun n c hm => ⟨x.cell n c (lookup_of_mem_nodup (cellsFrom_names scope.names 0 (s.heap.objs.size + 1) [] [] rfl ▸ hnd) hm), x.above n c hm⟩
  refine wpAny_mono (h _ s.heap.objs.size h₁ tk cells FG ⟨x.toInCall.ns, fun b o e => hk₁ b o (of_hideAll _ e), Nat.le_of_eq (hideAll_size _ _)⟩ (fun p hp => ?_) Y BG (X₀.keeps st) (T.keeps st) kg (fun p hp => Heap.lt_size (O p hp).1)) (fun fl s' hl => ?_) fun _ _ y => y
  · rcases List.mem_append.mp hp with hp | hp
    · refine ⟨(NC p hp).1, (NC p hp).2.1, ?_⟩
      cases q : (hideAll s.heap (own.map (·.1))).get? p.1 with
      | none => rfl
      | some o => have := of_hideAll _ q; rw [(NC p hp).2.2] at this; cases this
    · exact ⟨hk₁ _ _ (O p hp).1, Nat.ne_of_lt (Heap.lt_size (O p hp).1), hideAll_none _ (List.mem_map_of_mem hp)⟩
  · have hl2 := hl
    obtain ⟨L', m', news', F', N', k⟩ := hl2
    exact lv _ _ hl fun b o e hb => F'.keep _ _ (kg _ _ e hb)
end
theorem news_kept {h₀ h h' : Heap} {L : Addr} {news : List (Addr × Obj)} {as : List Addr} (N : News h₀ L h news) (hk : KeptBut as h h') (hn : ∀ p ∈ news, p.1 ∉ as) : News h₀ L h' news :=
  fun p hp => ⟨hk _ _ (N p hp).1 (hn p hp), (N p hp).2.1, (N p hp).2.2⟩
theorem news_kept0 {h₀ h h' : Heap} {L : Addr} {news : List (Addr × Obj)} (N : News h₀ L h news) (hk : KeptBut [] h h') : News h₀ L h' news := news_kept N hk fun _ _ h => nomatch h
end Mine
-- BJC
namespace Mine
open PySem PySem.W PySem.Calls PyProof.Rows
/-- a call of the def at `f` with `vs`: it ends, changes nothing that stood outside `own`, and hands back `r` with the ledger `nw` where `R r nw` -/
abbrev Does (w : World) (n : Nat) (f : Addr) (vs : List Value) (own : List (Addr × Obj)) (R : Value → List (Addr × Obj) → Prop) : Prop :=
  ∀ (mean : ExcName → Option Value) (mg mb : Str → Option Value) (dp un : Nat) (gd : Option (List Code)) (cn : Str) (cs : Scope) (a : Addr) (ccd : Value) (cl : List (Str × Addr)) (outer : List Env) (A₀ : Around) (base h₀ : Heap) (L : Addr) (m : Str → Option Value) (s : Shared) (Q E : Value → Shared → Prop),
    Below A₀ base outer h₀ → Fr h₀ L s.heap m → (hd.heap_39 w.params).In h₀ → News h₀ L s.heap own → Top hd.view_39 (looseW hd.view_39 []) mean mg mb h₀ → cs.kind = .function → dp + n < recursionLimit → un + 8 * n < cLine →
    (∀ (r : Value) (nw : List (Addr × Obj)) (h' : Heap) (tk' : Nat), R r nw → Fr h₀ L h' m → News h₀ L h' nw → KeptBut (own.map (·.1)) s.heap h' → Q r { s with heap := h', toks := tk' }) →
    wpAny (model Challenge.rw_bj0057_01.row.prog w) (ktrTop dp un gd cn cs L a ccd cl outer) (call (.ref f) vs) Q E s
theorem int_use {w : World} {n : Nat} {f : Addr} {vs : List Value} {v : Int} {mean : ExcName → Option Value} {mg mb : Str → Option Value} {dp un : Nat} {gd : Option (List Code)} {cn : Str} {cs : Scope} {a : Addr} {ccd : Value} {cl : List (Str × Addr)} {outer : List Env} {A₀ : Around} {base h₀ : Heap} {L : Addr} {m : Str → Option Value} {s : Shared} {Q E : Value → Shared → Prop} {news : List (Addr × Obj)}
    (D : Does w n f vs [] (fun r _ => ∃ t', r = .int v t')) (B : Below A₀ base outer h₀) (F : Fr h₀ L s.heap m) (X : (hd.heap_39 w.params).In h₀) (N : News h₀ L s.heap news) (T : Top hd.view_39 (looseW hd.view_39 []) mean mg mb h₀) (hk : cs.kind = .function) (hdp : dp + n < recursionLimit) (hun : un + 8 * n < cLine)
    (ret : ∀ (t : Tok) (h' : Heap) (tk' : Nat), Fr h₀ L h' m → News h₀ L h' news → Q (.int v t) { s with heap := h', toks := tk' }) :
    wpAny (model Challenge.rw_bj0057_01.row.prog w) (ktrTop dp un gd cn cs L a ccd cl outer) (call (.ref f) vs) Q E s :=
  D mean mg mb dp un gd cn cs a ccd cl outer A₀ base h₀ L m s Q E B F X News.nil T hk hdp hun fun r nw h' tk' hr F' _ kb => by
    obtain ⟨t, rfl⟩ := hr
    exact ret t h' tk' F' (news_kept0 N kb)
set_option maxRecDepth 100000 in
set_option maxHeartbeats 8000000 in
theorem digit_does (w : World) (x : Int) (t : Tok) (hx : 0 ≤ x) :
    Does w 1 35 [.int x t] [] (fun r _ => (∃ t', r = .int (digit x) t')) := by
  dsimp only [Does]
  k_fill
  intro mean mg mb dp un gd cn cs a ccd cl outer A₀ base h₀ L m s Q E B F KX N T hk hdp hun hret
  refine wpAny_call ?_
  (refine' enterG B F KX N T rfl rfl hk ?k6 ?k7 ?k8 ?k9 ?kB ?_ ?c2 ?c3 ?c4 ?c5; (case k6 => k_is); (case k7 => k_is); (case k8 => ktr_room); (case k9 => exact BindsTo.of_eq rfl); (case c5 => decide); (case kB => exact locs rfl); (case c2 => exact rfl); (case c3 => exact rfl); (case c4 => exact rfl); k_whole; intro g' L' h' FG' F' N' B' X' T' KB' LT'; (try dsimp only); (try k_lift B'); (try k_fold))
  (k_with "exec While Compare cons nil" => k_while_given [] (fun (_ : List Int) dat dig => 0 ≤ dat ∧ dig + digit dat = digit x) (fun (_ : List Int) dat _ => dat.toNat) "data" "digit")
  (k_with "state" => exact digit_state (by assumption) (by assumption) (by assumption))
  (k_with "measure" => exact digit_meas (by assumption) (by assumption))
  k_steps
  all_goals exact hret _ _ _ _ ⟨_, congrArg (Value.int · _) (digit_zero (by assumption) (by assumption))⟩ (by assumption) (by assumption) (by assumption)
def stepR (dv dg : Int) (x k : Int) : Int := if (x.fdiv (2 ^ k.toNat)).fmod 2 = 1 then Builtin.bitXor x (dv * 2 ^ (k - dg).toNat) else x
@[irreducible] def restF (x sz dv dg : Int) : Int := (downKs (sz - 1) (sz - 1 - (dg - 1)).toNat).foldl (stepR dv dg) x
theorem restF_def (x sz dv dg : Int) : restF x sz dv dg = (downKs (sz - 1) (sz - 1 - (dg - 1)).toNat).foldl (stepR dv dg) x := by unfold restF; rfl
theorem stepR_t {dv dg x w k : Int} {pre : List Int} (e : w = pre.foldl (stepR dv dg) x) (c : (w.fdiv (2 ^ k.toNat)).fmod 2 = 1) :
    Builtin.bitXor w (dv * 2 ^ (k - dg).toNat) = (pre ++ [k]).foldl (stepR dv dg) x := by
  rw [List.foldl_append, ← e]; exact (if_pos c).symm
theorem stepR_f {dv dg x w k : Int} {pre : List Int} (e : w = pre.foldl (stepR dv dg) x) (c : (w.fdiv (2 ^ k.toNat)).fmod 2 ≠ 1) :
    w = (pre ++ [k]).foldl (stepR dv dg) x := by
  rw [List.foldl_append, ← e]; exact (if_neg c).symm
set_option maxRecDepth 100000 in
set_option maxHeartbeats 8000000 in
theorem rest_does (w : World) (x sz dv dg: Int) (t t1 t2 t3 : Tok) (h0 : 0 ≤ dg) (h1 : dg < sz) (h2 : sz ≤ 18) (h3 : 0 ≤ dv) (h4 : dv < 8192) :
    Does w 1 49 [.int x t, .int sz t1, .int dv t2, .int dg t3] [] (fun r _ => (∃ t', r = .int (restF x sz dv dg) t')) := by
  dsimp only [Does]
  k_fill
  intro mean mg mb dp un gd cn cs a ccd cl outer A₀ base h₀ L m s Q E B F KX N T hk hdp hun hret
  refine wpAny_call ?_
  (refine' enterG B F KX N T rfl rfl hk ?k6 ?k7 ?k8 ?k9 ?kB ?_ ?c2 ?c3 ?c4 ?c5; (case k6 => k_is); (case k7 => k_is); (case k8 => ktr_room); (case k9 => exact BindsTo.of_eq rfl); (case c5 => decide); (case kB => exact locs rfl); (case c2 => exact rfl); (case c3 => exact rfl); (case c4 => exact rfl); k_whole; intro g' L' h' FG' F' N' B' X' T' KB' LT'; (try dsimp only); (try k_lift B'); (try k_fold))
  k_with "pyIter ref" => k_state (fun pre word => word = pre.foldl (stepR dv dg) x) "word"
  k_with "state" => first | exact stepR_t (by assumption) (by assumption) | exact stepR_f (by assumption) (by assumption)
  k_steps
  all_goals (rename _ = List.foldl _ _ _ => hend; exact hret _ _ _ _ ⟨_, congrArg (Value.int · _) (hend.trans (restF_def ..).symm)⟩ (by assumption) (by assumption) (by assumption))
end Mine
-- BJE
namespace Mine
open PySem PySem.W PySem.Calls PyProof.Rows
local macro_rules | `(tactic| walk_at "call ref") => `(tactic| (k_here; k_dflt (refine' int_use (digit_does _ _ _ ?h0) ?k1 ?k2 ?k3 ?k4 ?k5 ?kK ?kd ?ku ?_; (case k1 => k_asm); (case k2 => k_asm); (case k3 => k_asm); (case k4 => k_asm); (case k5 => k_asm); (case kK => first | exact rfl | assumption); (case kd => ktr_room); (case ku => ktr_units); (case h0 => first | omega | assumption)); intro t9 h9 tk9 F9 N9; (try dsimp only); (try k_fold)))
local macro_rules | `(tactic| walk_at "binaryOp LShift int int") => `(tactic| (k_here; k_dflt (refine' lshift_int_small ?k1 ?k2 ?k3 ?_; (case k1 => assumption); (case k2 => first | exact info_small (by assumption) (by assumption) (by assumption) | exact number_small (by assumption) (by assumption) (by assumption)); (case k3 => decide))))
set_option maxRecDepth 100000 in
set_option maxHeartbeats 8000000 in
theorem info_does (w : World) (x : Int) (t : Tok) (h0 : 0 ≤ x) (h1 : x < 32) :
    Does w 2 21 [.int x t] [] (fun r _ => (∃ t', r = .int (infoV x) t')) := by
  dsimp only [Does]
  k_fill
  intro mean mg mb dp un gd cn cs a ccd cl outer A₀ base h₀ L m s Q E B F KX N T hk hdp hun hret
  refine wpAny_call ?_
  (refine' enterG B F KX N T rfl rfl hk ?k6 ?k7 ?k8 ?k9 ?kB ?_ ?c2 ?c3 ?c4 ?c5; (case k6 => k_is); (case k7 => k_is); (case k8 => ktr_room); (case k9 => exact BindsTo.of_eq rfl); (case c5 => decide); (case kB => exact locs rfl); (case c2 => exact rfl); (case c3 => exact rfl); (case c4 => exact rfl); k_whole; intro g' L' h' FG' F' N' B' X' T' KB' LT'; (try dsimp only); (try k_lift B'); (try k_fold))
  k_with "exec While Compare cons nil" => k_while_given [] (fun (_ : List Int) d => 0 ≤ d ∧ InfoP x d) (fun (_ : List Int) d => d.toNat) "d"
  k_with "state" => first | exact info_start x (by assumption) (by assumption) | exact (info_turn h0 h1 (by assumption) (by assumption)).1
  k_with "measure" => exact (info_turn h0 h1 (by assumption) (by assumption)).2
  k_steps
  all_goals exact hret _ _ _ _ ⟨_, congrArg (Value.int · _) (info_end h0 h1 (by assumption) (by omega))⟩ (by assumption) (by assumption) (by assumption)
set_option maxRecDepth 100000 in
set_option maxHeartbeats 8000000 in
theorem number_does (w : World) (x : Int) (t : Tok) (h0 : 0 ≤ x) (h1 : x < 64) :
    Does w 2 28 [.int x t] [] (fun r _ => (∃ t', r = .int (numberV x) t')) := by
  dsimp only [Does]
  k_fill
  intro mean mg mb dp un gd cn cs a ccd cl outer A₀ base h₀ L m s Q E B F KX N T hk hdp hun hret
  refine wpAny_call ?_
  (refine' enterG B F KX N T rfl rfl hk ?k6 ?k7 ?k8 ?k9 ?kB ?_ ?c2 ?c3 ?c4 ?c5; (case k6 => k_is); (case k7 => k_is); (case k8 => ktr_room); (case k9 => exact BindsTo.of_eq rfl); (case c5 => decide); (case kB => exact locs rfl); (case c2 => exact rfl); (case c3 => exact rfl); (case c4 => exact rfl); k_whole; intro g' L' h' FG' F' N' B' X' T' KB' LT'; (try dsimp only); (try k_lift B'); (try k_fold))
  k_with "exec While Compare cons nil" => k_while_given [] (fun (_ : List Int) d => 0 ≤ d ∧ NumberP x d) (fun (_ : List Int) d => d.toNat) "d"
  k_with "state" => first | exact number_start x (by assumption) (by assumption) | exact (number_turn h0 h1 (by assumption) (by assumption)).1
  k_with "measure" => exact (number_turn h0 h1 (by assumption) (by assumption)).2
  k_steps
  all_goals exact hret _ _ _ _ ⟨_, congrArg (Value.int · _) (number_end h0 h1 (by assumption) (by omega))⟩ (by assumption) (by assumption) (by assumption)
set_option maxRecDepth 100000 in
set_option maxHeartbeats 8000000 in
theorem apart_does (w : World) (x y : Int) (t u : Tok) :
    Does w 1 61 [.int x t, .int y u] [] (fun r _ => (∃ t', r = .int (apartF x y) t')) := by
  dsimp only [Does]
  k_fill
  intro mean mg mb dp un gd cn cs a ccd cl outer A₀ base h₀ L m s Q E B F KX N T hk hdp hun hret
  refine wpAny_call ?_
  (refine' enterG B F KX N T rfl rfl hk ?k6 ?k7 ?k8 ?k9 ?kB ?_ ?c2 ?c3 ?c4 ?c5; (case k6 => k_is); (case k7 => k_is); (case k8 => ktr_room); (case k9 => exact BindsTo.of_eq rfl); (case c5 => decide); (case kB => exact locs rfl); (case c2 => exact rfl); (case c3 => exact rfl); (case c4 => exact rfl); k_whole; intro g' L' h' FG' F' N' B' X' T' KB' LT'; (try dsimp only); (try k_lift B'); (try k_fold))
  k_with "exec While Compare cons nil" => k_while_given [] (fun (_ : List Int) both many => many + (pcU both.toNat : Int) = apartF x y) (fun (_ : List Int) both _ => both.toNat) "both" "many"
  k_with "state" => first | exact apart_start x y | exact apart_turn (by assumption) (by assumption)
  k_with "measure" => exact apart_meas (by assumption)
  k_steps
  all_goals exact hret _ _ _ _ ⟨_, congrArg (Value.int · _) (apart_end (by assumption) (by omega))⟩ (by assumption) (by assumption) (by assumption)
end Mine
-- BJN
namespace Mine
open PySem PySem.W PySem.Calls PyProof.Rows
set_option maxRecDepth 100000 in
set_option maxHeartbeats 8000000 in
theorem next_does (w : World) (st l : Addr) (hne : @LT.lt Nat _ l st) (ws : List Value) (ns : List Int) (hI : IntsAre ws ns) (hlen : ns.length ≤ 20) (i sd many : Int) (ti ts tm : Tok) (hi : 0 ≤ i) (hi2 : i ≤ 20) (hs : 0 ≤ sd) (hs2 : sd < 2147483647) (hm : 0 < many) (hm2 : many ≤ 40) :
    Does w 1 42 [.ref st, .int many tm] [(st, W.listOf #[.ref l, .int i ti, .int sd ts] 0), (l, W.listOf ws.toArray 0)]
      (fun r nw => ∃ v t i' ti' sd' ts', r = .int v t ∧ 0 ≤ v ∧ v < many ∧ 0 ≤ i' ∧ i' ≤ 20 ∧ 0 ≤ sd' ∧ sd' < 2147483647 ∧ nw = [(st, W.listOf #[.ref l, .int i' ti', .int sd' ts'] 0), (l, W.listOf ws.toArray 0)]) := by
  dsimp only [Does]
  k_fill
  intro mean mg mb dp un gd cn cs a ccd cl outer A₀ base h₀ L m s Q E B F KX N T hk hdp hun hret
  refine wpAny_call ?_
  (refine' enterG B F KX N T rfl rfl hk ?k6 ?k7 ?k8 ?k9 ?kB ?_ ?c2 ?c3 ?c4 ?c5; (case k6 => k_is); (case k7 => k_is); (case k8 => ktr_room); (case k9 => exact BindsTo.of_eq rfl); (case c5 => decide); (case kB => exact locs rfl); (case c2 => exact rfl); (case c3 => exact rfl); (case c4 => exact rfl); k_whole; intro g' L' h' FG' F' N' B' X' T' KB' LT'; (try dsimp only); (try k_lift B'); (try k_fold))
  k_steps
  all_goals (refine hret _ _ _ _ ⟨_, _, _, _, _, _, rfl, ?_, ?_, ?_, ?_, ?_, ?_, rfl⟩ (by assumption) (by assumption) (by assumption))
  all_goals first
    | exact Int.fmod_nonneg_of_pos _ (by omega)
    | exact Int.fmod_lt_of_pos _ (by omega)
    | omega
end Mine
-- BJU
namespace Mine
open PySem PySem.W PySem.Calls PyProof.Rows
theorem next_use {w : World} {mean : ExcName → Option Value} {mg mb : Str → Option Value} {dp un : Nat} {gd : Option (List Code)} {cn : Str} {cs : Scope} {a : Addr} {ccd : Value} {cl : List (Str × Addr)} {outer : List Env} {A₀ : Around} {base h₀ : Heap} {L : Addr} {m : Str → Option Value} {s : Shared} {Q E : Value → Shared → Prop} {news : List (Addr × Obj)}
    {st l : Addr} {ws : List Value} {ns : List Int} {i sd many : Int} {ti ts tm : Tok} {g : Obj → List (Addr × Obj)}
    (B : Below A₀ base outer h₀) (F : Fr h₀ L s.heap m) (X : (hd.heap_39 w.params).In h₀) (N : News h₀ L s.heap news) (T : Top hd.view_39 (looseW hd.view_39 []) mean mg mb h₀) (hk : cs.kind = .function) (hdp : dp + 1 < recursionLimit) (hun : un + 8 * 1 < cLine)
    (U : UpdF st (W.listOf #[.ref l, .int i ti, .int sd ts] 0) news g) (hl : (l, W.listOf ws.toArray 0) ∈ news) (hI : IntsAre ws ns)
    (hne : @LT.lt Nat _ l st) (hlen : ns.length ≤ 20) (hi : 0 ≤ i) (hi2 : i ≤ 20) (hs : 0 ≤ sd) (hs2 : sd < 2147483647) (hm : 0 < many) (hm2 : many ≤ 40)
    (ret : ∀ (v : Int) (t : Tok) (i' : Int) (ti' : Tok) (sd' : Int) (ts' : Tok) (h' : Heap) (tk' : Nat), 0 ≤ v → v < many → 0 ≤ i' → i' ≤ 20 → 0 ≤ sd' → sd' < 2147483647 → Fr h₀ L h' m → News h₀ L h' (g (W.listOf #[.ref l, .int i' ti', .int sd' ts'] 0)) → Q (.int v t) { s with heap := h', toks := tk' }) :
    wpAny (model Challenge.rw_bj0057_01.row.prog w) (ktrTop dp un gd cn cs L a ccd cl outer) (call (.ref 42) [.ref st, .int many tm]) Q E s := by
  obtain ⟨pre, post, e1, e2, h1, h2⟩ := U.split
  have hst : (st, W.listOf #[.ref l, .int i ti, .int sd ts] 0) ∈ news := by rw [e1]; exact List.mem_append_right _ (.head _)
  refine next_does w st l hne ws ns hI hlen i sd many ti ts tm hi hi2 hs hs2 hm hm2 mean mg mb dp un gd cn cs a ccd cl outer A₀ base h₀ L m s Q E B F X ?_ T hk hdp hun ?_
  · intro p hp
    rcases List.mem_cons.mp hp with rfl | hp
    · exact N _ hst
    · rcases List.mem_singleton.mp hp with rfl
      exact N _ hl
  · rintro r nw h' tk' ⟨v, t, i', ti', sd', ts', rfl, v0, v1, i0, i1, s0, s1, rfl⟩ F' N' kb
    refine ret v t i' ti' sd' ts' h' tk' v0 v1 i0 i1 s0 s1 F' ?_
    rw [e2]
    have hz := N' _ (.head _)
    have hy := N' (l, W.listOf ws.toArray 0) (.tail _ (.head _))
    have old : ∀ p ∈ news, p.1 ≠ st → h'.get? p.1 = some p.2 ∧ p.1 ≠ L ∧ h₀.get? p.1 = none := by
      intro p hp hps
      refine ⟨?_, (N p hp).2⟩
      by_cases hpl : p.1 = l
      · have e3 := (N p hp).1
        rw [hpl, (N _ hl).1] at e3
        rw [hpl, hy.1]; exact e3
      · exact kb _ _ (N p hp).1 (by intro hm; rcases List.mem_cons.mp hm with q | hm; exact hps q; exact hpl (List.mem_singleton.mp hm))
    intro p hp
    rcases List.mem_append.mp hp with hp | hp
    · exact old p (by rw [e1]; exact List.mem_append_left _ hp) (h1 p hp)
    · rcases List.mem_cons.mp hp with rfl | hp
      · exact hz
      · exact old p (by rw [e1]; exact List.mem_append_right _ (.tail _ hp)) (h2 p hp)
end Mine
-- BJL
namespace Mine
open PySem PySem.W PySem.Calls PyProof.Rows PyProof.V PySem.Spec
set_option maxRecDepth 100000
section
variable {prog : Program} {w : World} {A : Around} {E : Value → Shared → Prop} {s : Shared} {env : Env} {h₀ : Heap} {x : Str} {body : List Stmt} {Q : Flow → Shared → Prop}
/-- a loop over a range, by a word over a state whose objects may change their places -/
theorem rangeG {σ : Type} {r : Addr} {a₀ b₀ : Int} {t₀ u₀ v₀ : Tok} {n : Nat} {m₀ : Str → Option Value} (Led : σ → List (Addr × Obj)) (ps : σ → List (Str × Value)) (Facts : σ → Prop) (stored : List Str) (P : List Int → σ → Prop) (c₀ : σ)
    (hh : A.handled = none) (hr : IsRange s.heap r a₀ b₀ 1 t₀ u₀ v₀) (hsmall : Builtin.Range.small a₀ b₀ 1 = true) (hn : Builtin.Range.rangeSize a₀ b₀ 1 = (n : Int)) (F : Fr h₀ env.locals s.heap m₀) (N : News h₀ env.locals s.heap (Led c₀)) (hf : Facts c₀) (hk : ∀ p ∈ ps c₀, m₀ p.1 = some p.2) (hp : P [] c₀)
    (turn : ∀ (c : σ) (pre : List Int) (k : Int) t (u : Str → Option Value) h tk own, k = a₀ + (pre.length : Int) → pre.length < n → OwnOff own ((Led c).map (·.1)) → Facts c → P pre c →
      Fr h₀ env.locals h (fun y => if y = x then some (.int k t) else kstB (fun z => if stored.contains z then u z else m₀ z) (ps c) y) → News h₀ env.locals h (Led c ++ own) →
      wpAny (model prog w) A (execs body env) (InvPostG h₀ env.locals (KstS Led ps Facts x stored m₀ P (pre ++ [k])) own { s with heap := h, toks := tk } Q) E { s with heap := h, toks := tk })
    (done : ∀ (c : σ) (u : Str → Option Value) h tk, Facts c → P (rangeKs a₀ n) c → Fr h₀ env.locals h (fun y => if y = x then u y else kstB (fun z => if stored.contains z then u z else m₀ z) (ps c) y) → News h₀ env.locals h (Led c) → Q .next { s with heap := h, toks := tk }) :
    wpAny (model prog w) A (pyIter (.ref r)) (fun it s₂ => LoopAtV prog w A h₀ env x body Q E it s₂) E s := by
  refine wpAny_pyIter_range hr hsmall ?_
  have W : Walks prog w A s.heap.objs.size [s.heap.objs.size] [s.heap.objs.size] n (fun i v => i < n ∧ ∃ t, v = .int (a₀ + i * 1) t)
      (fun i h => IsRangeIter h s.heap.objs.size (a₀ + (i : Nat) * 1) ((n : Int) - (i : Nat)) 1) := (Walks.range hh _ a₀ 1 n).bound
  refine ⟨_, _, _, n, _, _, m₀, Led c₀, fun i m nx => KstS Led ps Facts x stored m₀ P ((rangeKs a₀ n).take i) m nx, rfl, W, ?_, ?_, ?_, (by show IsRangeIter _ _ _ _ _; rw [hn]; simpa using Heap.get?_push_size _ rfl), F.push _, (fun p hp => ⟨Heap.get?_push_of_some _ (N p hp).1, (N p hp).2⟩), ⟨c₀, rfl, hf, hk, fun _ _ _ _ => rfl, by simpa using hp⟩, ?_, ?_⟩
  · intro hm
    exact absurd F.ns.lt ((List.mem_singleton.mp hm) ▸ Nat.lt_irrefl _)
  · intro b hb
    rw [List.mem_singleton.mp hb]
    exact next_is_new F
  · intro p hp hI
    exact absurd (Heap.lt_size (N p hp).1) ((List.mem_singleton.mp hI) ▸ Nat.lt_irrefl _)
  · rintro i v m₁ news₁ s₁ own ⟨hh', tk', rfl⟩ hi ⟨_, t, rfl⟩ ⟨c, rfl, hf', h1, h2, hp'⟩ hoff hown _ hfp hst F₁ N₁
    have hI0 : h₀.get? s.heap.objs.size = none := next_is_new F
    have hIown : ∃ o, (s.heap.objs.size, o) ∈ own := ⟨_, hfp _ (List.mem_singleton.mpr rfl) hI0 _ hst⟩
    have hsep : OwnOff own ((Led c).map (·.1)) := by
      intro p hp b hb e
      obtain ⟨q, hq, rfl⟩ := List.mem_map.mp hb
      have h3 := List.mem_singleton.mp (hown p hp)
      exact hoff q hq (List.mem_singleton.mpr (e ▸ h3))
    have e1 : a₀ + (i : Int) * 1 = a₀ + (i : Int) := by omega
    rw [e1] at F₁
    have hk' : (rangeKs a₀ n)[i]? = some (a₀ + (i : Int)) := by simp [rangeKs, hi]
    have hs : (rangeKs a₀ n).take (i + 1) = (rangeKs a₀ n).take i ++ [a₀ + (i : Int)] := by simp [List.take_add_one, hk']
    have hlen : ((rangeKs a₀ n).take i).length = i := by rw [List.length_take, rangeKs_length]; omega
    have N₂ : News h₀ env.locals hh' (Led c ++ own) := fun p hp => N₁ p ((List.mem_append.mp hp).elim (fun h => List.mem_append.mpr (.inr h)) fun h => List.mem_append.mpr (.inl h))
    refine wpAny_mono (turn c _ _ t m₁ hh' tk' own (by rw [hlen]) (by rw [hlen]; exact hi) hsep hf' hp' (kst_fr h1 h2 F₁) N₂) (fun f s₂ p => ?_) fun _ _ e => e
    rw [← hs] at p
    have fin : InvEndG h₀ env.locals (KstS Led ps Facts x stored m₀ P ((rangeKs a₀ n).take (i + 1))) own { s with heap := hh', toks := tk' } s₂ → LoopStepU h₀ env.locals [s.heap.objs.size] own (KstS Led ps Facts x stored m₀ P ((rangeKs a₀ n).take (i + 1))) { s with heap := hh', toks := tk' } .next s₂ := by
      rintro ⟨h', tk, m', news', nx, e, F', N', hn, ho, ha, hm⟩
      refine ⟨rfl, h', tk, m', nx, e, F', fun p hp => N' p ((List.mem_append.mp hp).elim (ho p) (hn p)), fun p hp hq => ?_, hm⟩
      obtain ⟨oI, hIo⟩ := hIown
      exact ha _ hIo p.1 (List.mem_map.mpr ⟨p, hp, rfl⟩) (List.mem_singleton.mp hq).symm
    cases f with
    | ret v => exact .ret p
    | brk => exact .brk p
    | next => exact .next (fin p)
    | cont => exact .cont (fin p)
  · rintro h' tk m' news' F' N' _ ⟨c, rfl, hf', h1, h2, hp'⟩
    have hl : (rangeKs a₀ n).take n = rangeKs a₀ n := List.take_of_length_le (Nat.le_of_eq (rangeKs_length _ _))
    rw [hl] at hp'
    exact done c m' h' tk hf' hp' (kst_frOut h1 h2 F') N'
end
end Mine
-- BJL2
namespace Mine
open PySem PySem.W PySem.Calls PyProof.Rows PyProof.V PySem.Spec
set_option maxRecDepth 100000
structure TC where
  pl : Addr
  vs : List Value
  ps : List Int
  i : Int
  ti : Tok
  sd : Int
  ts : Tok
abbrev tLed (st l : Addr) (ws : List Value) (pl : Addr) (vs : List Value) (i : Int) (ti : Tok) (sd : Int) (ts : Tok) : List (Addr × Obj) :=
  [(pl, W.listOf vs.toArray 0), (st, W.listOf #[.ref l, .int i ti, .int sd ts] 0), (l, W.listOf ws.toArray 0)]
structure TFacts (st : Addr) (size : Int) (c : TC) : Prop where
  hlt : @LT.lt Nat _ st c.pl
  hvs : IntsAre c.vs c.ps
  hmem : ∀ p ∈ c.ps, 0 ≤ p ∧ p < size
  hnd : c.ps.Nodup
  i0 : 0 ≤ c.i
  i1 : c.i ≤ 20
  s0 : 0 ≤ c.sd
  s1 : c.sd < 2147483647
def TPost (h₀ : Heap) (L st l : Addr) (ws : List Value) (size : Int) (x : Str) (m₀ : Str → Option Value) (n : Nat) (own : List (Addr × Obj)) (s₁ : Shared) (Q : Flow → Shared → Prop) (f : Flow) (s₂ : Shared) : Prop :=
  InvPostG h₀ L (fun m nx => ∃ c : TC, nx = tLed st l ws c.pl c.vs c.i c.ti c.sd c.ts ∧ TFacts st size c ∧ m (Str.ofString "places") = some (.ref c.pl) ∧ (∀ z, z ≠ x → z ≠ Str.ofString "places" → z ≠ Str.ofString "place" → m z = m₀ z) ∧ c.ps.length ≤ n) own s₁ Q f s₂
section
variable {prog : Program} {w : World} {A : Around} {E : Value → Shared → Prop} {s : Shared} {env : Env} {h₀ : Heap} {x : Str} {body : List Stmt} {Q : Flow → Shared → Prop}
theorem turned_loop {r st l pl₀ : Addr} {v size i₀ sd₀ : Int} {t₀ u₀ v₀ ti₀ ts₀ : Tok} {ws : List Value} {m₀ : Str → Option Value}
    (hh : A.handled = none) (hr : IsRange s.heap r 0 v 1 t₀ u₀ v₀) (hv0 : 0 ≤ v) (hv : v < 4) (F : Fr h₀ env.locals s.heap m₀) (N : News h₀ env.locals s.heap (tLed st l ws pl₀ [] i₀ ti₀ sd₀ ts₀)) (hpl : @LT.lt Nat _ st pl₀)
    (hi0 : 0 ≤ i₀) (hi1 : i₀ ≤ 20) (hs0 : 0 ≤ sd₀) (hs1 : sd₀ < 2147483647) (hk : m₀ (Str.ofString "places") = some (.ref pl₀))
    (turn : ∀ (pl : Addr) (vs : List Value) (ps : List Int) (i : Int) (ti : Tok) (sd : Int) (ts : Tok) (k : Int) (t : Tok) (n : Nat) (u : Str → Option Value) (h : Heap) (tk : Nat) (own : List (Addr × Obj)), @LT.lt Nat _ st pl → IntsAre vs ps → ps.length ≤ 2 → ps.length ≤ n → (∀ p ∈ ps, 0 ≤ p ∧ p < size) → ps.Nodup → 0 ≤ i → i ≤ 20 → 0 ≤ sd → sd < 2147483647 → OwnOff own [pl, st, l] →
      Fr h₀ env.locals h (fun y => if y = x then some (.int k t) else if y = Str.ofString "places" then some (.ref pl) else if List.contains [Str.ofString "place"] y then u y else m₀ y) → News h₀ env.locals h (tLed st l ws pl vs i ti sd ts ++ own) →
      wpAny (model prog w) A (execs body env) (TPost h₀ env.locals st l ws size x m₀ (n + 1) own { s with heap := h, toks := tk } Q) E { s with heap := h, toks := tk })
    (done : ∀ (pl : Addr) (vs : List Value) (ps : List Int) (i : Int) (ti : Tok) (sd : Int) (ts : Tok) (u : Str → Option Value) (h : Heap) (tk : Nat), @LT.lt Nat _ st pl → IntsAre vs ps → ps.length ≤ 3 → (∀ p ∈ ps, 0 ≤ p ∧ p < size) → ps.Nodup → 0 ≤ i → i ≤ 20 → 0 ≤ sd → sd < 2147483647 →
      Fr h₀ env.locals h (fun y => if y = x then u y else if y = Str.ofString "places" then some (.ref pl) else if List.contains [Str.ofString "place"] y then u y else m₀ y) → News h₀ env.locals h (tLed st l ws pl vs i ti sd ts) → Q .next { s with heap := h, toks := tk }) :
    wpAny (model prog w) A (pyIter (.ref r)) (fun it s₂ => LoopAtV prog w A h₀ env x body Q E it s₂) E s := by
  refine rangeG (σ := TC) (n := v.toNat) (fun c => tLed st l ws c.pl c.vs c.i c.ti c.sd c.ts) (fun c => [(Str.ofString "places", .ref c.pl)]) (TFacts st size) [Str.ofString "place"] (fun pre c => c.ps.length ≤ pre.length) ⟨pl₀, [], [], i₀, ti₀, sd₀, ts₀⟩
    hh hr ?_ ?_ F N ⟨hpl, .nil, (fun _ h => nomatch h), .nil, hi0, hi1, hs0, hs1⟩ ?_ (Nat.le_refl _) ?_ ?_
  · have : v = 0 ∨ v = 1 ∨ v = 2 ∨ v = 3 := by omega
    rcases this with rfl | rfl | rfl | rfl <;> decide
  · have : v = 0 ∨ v = 1 ∨ v = 2 ∨ v = 3 := by omega
    rcases this with rfl | rfl | rfl | rfl <;> decide
  · intro p hp
    rw [List.mem_singleton.mp hp]; exact hk
  · rintro ⟨pl, vs, ps, i, ti, sd, ts⟩ pre k t u h tk own hk' hn hoff hf hP F' N'
    have hl : ps.length ≤ pre.length := hP
    refine wpAny_mono (turn pl vs ps i ti sd ts k t pre.length u h tk own hf.hlt hf.hvs (by omega) hl hf.hmem hf.hnd hf.i0 hf.i1 hf.s0 hf.s1 hoff F' N') (fun f s₂ hpost => ?_) fun _ _ e => e
    have fin : InvEndG h₀ env.locals (fun m nx => ∃ c : TC, nx = tLed st l ws c.pl c.vs c.i c.ti c.sd c.ts ∧ TFacts st size c ∧ m (Str.ofString "places") = some (.ref c.pl) ∧ (∀ z, z ≠ x → z ≠ Str.ofString "places" → z ≠ Str.ofString "place" → m z = m₀ z) ∧ c.ps.length ≤ pre.length + 1) own { s with heap := h, toks := tk } s₂ →
        InvEndG h₀ env.locals (KstS (fun c : TC => tLed st l ws c.pl c.vs c.i c.ti c.sd c.ts) (fun c => [(Str.ofString "places", Value.ref c.pl)]) (TFacts st size) x [Str.ofString "place"] m₀ (fun pre c => c.ps.length ≤ pre.length) (pre ++ [k])) own { s with heap := h, toks := tk } s₂ := by
      rintro ⟨h', tk', m', news', nx, e, F2, N2, hn2, ho2, ha2, c, e1, e2, e3, e4, e5⟩
      refine ⟨h', tk', m', news', nx, e, F2, N2, hn2, ho2, ha2, c, e1, e2, ?_, ?_, ?_⟩
      · intro p hp
        rw [List.mem_singleton.mp hp]; exact e3
      · intro z h1 h2 h3
        refine e4 z h1 (h2 _ (.head _)) fun e => ?_
        subst e
        simp at h3
      · simpa using e5
    cases f with
    | ret v => exact hpost
    | brk => exact hpost
    | next => exact fin hpost
    | cont => exact fin hpost
  · rintro ⟨pl, vs, ps, i, ti, sd, ts⟩ u h tk hf hP F' N'
    have hl : ps.length ≤ (rangeKs 0 v.toNat).length := hP
    rw [rangeKs_length] at hl
    exact done pl vs ps i ti sd ts u h tk hf.hlt hf.hvs (by omega) hf.hmem hf.hnd hf.i0 hf.i1 hf.s0 hf.s1 F' N'
theorem turned_loop4 {r st l pl₀ : Addr} {v size i₀ sd₀ : Int} {t₀ u₀ v₀ ti₀ ts₀ tz : Tok} {ws : List Value} {m₀ : Str → Option Value}
    (hh : A.handled = none) (hr : IsRange s.heap r 0 v 1 t₀ u₀ v₀) (hv0 : 0 ≤ v) (hv : v < 4) (F : Fr h₀ env.locals s.heap m₀) (N : News h₀ env.locals s.heap (tLed st l ws pl₀ [] i₀ ti₀ sd₀ ts₀)) (hpl : @LT.lt Nat _ st pl₀)
    (hi0 : 0 ≤ i₀) (hi1 : i₀ ≤ 20) (hs0 : 0 ≤ sd₀) (hs1 : sd₀ < 2147483647) (hk : m₀ (Str.ofString "places") = some (.ref pl₀)) (_hz : m₀ (Str.ofString "size") = some (.int size tz))
    (turn : ∀ (pl : Addr) (vs : List Value) (ps : List Int) (i : Int) (ti : Tok) (sd : Int) (ts : Tok) (k : Int) (t : Tok) (n : Nat) (u : Str → Option Value) (h : Heap) (tk : Nat) (own : List (Addr × Obj)), @LT.lt Nat _ st pl → IntsAre vs ps → ps.length ≤ 2 → ps.length ≤ n → (∀ p ∈ ps, 0 ≤ p ∧ p < size) → ps.Nodup → 0 ≤ i → i ≤ 20 → 0 ≤ sd → sd < 2147483647 → OwnOff own [pl, st, l] →
      Fr h₀ env.locals h (fun y => if y = x then some (.int k t) else if y = Str.ofString "places" then some (.ref pl) else if List.contains [Str.ofString "place"] y then u y else m₀ y) → News h₀ env.locals h ((pl, W.listOf vs.toArray 0) :: (st, W.listOf #[.ref l, .int i ti, .int sd ts] 0) :: (l, W.listOf ws.toArray 0) :: own) →
      wpAny (model prog w) A (execs body env) (TPost h₀ env.locals st l ws size x m₀ (n + 1) own { s with heap := h, toks := tk } Q) E { s with heap := h, toks := tk })
    (done0 : ∀ (pl : Addr) (i : Int) (ti : Tok) (sd : Int) (ts : Tok) (u : Str → Option Value) (h : Heap) (tk : Nat), @LT.lt Nat _ st pl → 0 ≤ i → i ≤ 20 → 0 ≤ sd → sd < 2147483647 →
      Fr h₀ env.locals h (fun y => if y = x then u y else if y = Str.ofString "places" then some (.ref pl) else if List.contains [Str.ofString "place"] y then u y else m₀ y) → News h₀ env.locals h [(pl, W.listOf #[] 0), (st, W.listOf #[.ref l, .int i ti, .int sd ts] 0), (l, W.listOf ws.toArray 0)] → Q .next { s with heap := h, toks := tk })
    (done1 : ∀ (pl : Addr) (a : Int) (ta : Tok) (i : Int) (ti : Tok) (sd : Int) (ts : Tok) (u : Str → Option Value) (h : Heap) (tk : Nat), @LT.lt Nat _ st pl → 0 ≤ a → a < size → 0 ≤ i → i ≤ 20 → 0 ≤ sd → sd < 2147483647 →
      Fr h₀ env.locals h (fun y => if y = x then u y else if y = Str.ofString "places" then some (.ref pl) else if List.contains [Str.ofString "place"] y then u y else m₀ y) → News h₀ env.locals h [(pl, W.listOf #[.int a ta] 0), (st, W.listOf #[.ref l, .int i ti, .int sd ts] 0), (l, W.listOf ws.toArray 0)] → Q .next { s with heap := h, toks := tk })
    (done2 : ∀ (pl : Addr) (a : Int) (ta : Tok) (b : Int) (tb : Tok) (i : Int) (ti : Tok) (sd : Int) (ts : Tok) (u : Str → Option Value) (h : Heap) (tk : Nat), @LT.lt Nat _ st pl → 0 ≤ a → a < size → 0 ≤ b → b < size → a ≠ b → 0 ≤ i → i ≤ 20 → 0 ≤ sd → sd < 2147483647 →
      Fr h₀ env.locals h (fun y => if y = x then u y else if y = Str.ofString "places" then some (.ref pl) else if List.contains [Str.ofString "place"] y then u y else m₀ y) → News h₀ env.locals h [(pl, W.listOf #[.int a ta, .int b tb] 0), (st, W.listOf #[.ref l, .int i ti, .int sd ts] 0), (l, W.listOf ws.toArray 0)] → Q .next { s with heap := h, toks := tk })
    (done3 : ∀ (pl : Addr) (a : Int) (ta : Tok) (b : Int) (tb : Tok) (c : Int) (tc : Tok) (i : Int) (ti : Tok) (sd : Int) (ts : Tok) (u : Str → Option Value) (h : Heap) (tk : Nat), @LT.lt Nat _ st pl → 0 ≤ a → a < size → 0 ≤ b → b < size → 0 ≤ c → c < size → a ≠ b → a ≠ c → b ≠ c → 0 ≤ i → i ≤ 20 → 0 ≤ sd → sd < 2147483647 →
      Fr h₀ env.locals h (fun y => if y = x then u y else if y = Str.ofString "places" then some (.ref pl) else if List.contains [Str.ofString "place"] y then u y else m₀ y) → News h₀ env.locals h [(pl, W.listOf #[.int a ta, .int b tb, .int c tc] 0), (st, W.listOf #[.ref l, .int i ti, .int sd ts] 0), (l, W.listOf ws.toArray 0)] → Q .next { s with heap := h, toks := tk }) :
    wpAny (model prog w) A (pyIter (.ref r)) (fun it s₂ => LoopAtV prog w A h₀ env x body Q E it s₂) E s := by
  refine turned_loop hh hr hv0 hv F N hpl hi0 hi1 hs0 hs1 hk turn ?_
  intro pl vs ps i ti sd ts u h tk hlt hI hl hm hnd i0 i1 s0 s1 F' N'
  cases hI with
  | nil => exact done0 pl i ti sd ts u h tk hlt i0 i1 s0 s1 F' N'
  | cons a ta hI =>
    have ha := hm a (.head _)
    cases hI with
    | nil => exact done1 pl a ta i ti sd ts u h tk hlt ha.1 ha.2 i0 i1 s0 s1 F' N'
    | cons b tb hI =>
      have hb := hm b (.tail _ (.head _))
      cases hI with
      | nil =>
        simp at hnd
        exact done2 pl a ta b tb i ti sd ts u h tk hlt ha.1 ha.2 hb.1 hb.2 hnd i0 i1 s0 s1 F' N'
      | cons c tc hI =>
        have hc := hm c (.tail _ (.tail _ (.head _)))
        cases hI with
        | nil =>
          simp at hnd
          exact done3 pl a ta b tb c tc i ti sd ts u h tk hlt ha.1 ha.2 hb.1 hb.2 hc.1 hc.2 hnd.1.1 hnd.1.2 hnd.2 i0 i1 s0 s1 F' N'
        | cons d td hI => simp only [List.length_cons] at hl; omega
theorem turned_end {h₀ h' : Heap} {L st l pl : Addr} {ws vs : List Value} {ps : List Int} {i sd size : Int} {ti ts : Tok} {x : Str} {m₀ m' : Str → Option Value} {n tk : Nat} {own news' : List (Addr × Obj)} {s₁ : Shared}
    (F : Fr h₀ L h' m') (N : News h₀ L h' news') (hm1 : (pl, W.listOf vs.toArray 0) ∈ news') (hm2 : (st, W.listOf #[.ref l, .int i ti, .int sd ts] 0) ∈ news') (hm3 : (l, W.listOf ws.toArray 0) ∈ news') (ho : ∀ p ∈ own, p ∈ news') (hoff : OwnOff own [pl, st, l]) (hf : TFacts st size ⟨pl, vs, ps, i, ti, sd, ts⟩)
    (hp : m' (Str.ofString "places") = some (.ref pl)) (hz : ∀ z, z ≠ x → z ≠ Str.ofString "places" → z ≠ Str.ofString "place" → m' z = m₀ z) (hl : ps.length ≤ n) :
    InvEndG h₀ L (fun m nx => ∃ c : TC, nx = tLed st l ws c.pl c.vs c.i c.ti c.sd c.ts ∧ TFacts st size c ∧ m (Str.ofString "places") = some (.ref c.pl) ∧ (∀ z, z ≠ x → z ≠ Str.ofString "places" → z ≠ Str.ofString "place" → m z = m₀ z) ∧ c.ps.length ≤ n) own s₁ { s₁ with heap := h', toks := tk } :=
  InvEndG.intro (nx := tLed st l ws pl vs i ti sd ts) F N ⟨⟨pl, vs, ps, i, ti, sd, ts⟩, rfl, hf, hp, hz, hl⟩ hoff (fun p hp => by
    simp only [tLed, List.mem_cons, List.not_mem_nil, or_false] at hp
    rcases hp with rfl | rfl | rfl
    · exact hm1
    · exact hm2
    · exact hm3) ho
theorem news_drop1 {h₀ h : Heap} {L : Addr} {p : Addr × Obj} {r : List (Addr × Obj)} (N : News h₀ L h (p :: r)) : News h₀ L h r := fun q hq => N q (.tail _ hq)
theorem news_drop2 {h₀ h : Heap} {L : Addr} {p q : Addr × Obj} {r : List (Addr × Obj)} (N : News h₀ L h (p :: q :: r)) : News h₀ L h r := news_drop1 (news_drop1 N)
end
end Mine
-- BJV
namespace Mine
open PySem PySem.W PySem.Calls PyProof.Rows
local macro_rules | `(tactic| walk_at "call ref") => `(tactic| (k_here; k_dflt (refine' next_use ?k1 ?k2 ?k3 ?k4 ?k5 ?kK ?kd ?ku ?kU ?kl ?kI ?hne ?hlen ?a1 ?a2 ?a3 ?a4 ?a5 ?a6 ?_; (case k1 => k_asm); (case k2 => k_asm); (case k3 => k_asm); (case k4 => k_asm); (case k5 => k_asm); (case kK => first | exact rfl | assumption); (case kd => ktr_room); (case ku => ktr_units); (case kU => k_updF); (case kl => k_mem); (case kI => l_ints); (case hne => omega); (case hlen => omega); (case a1 => omega); (case a2 => omega); (case a3 => omega); (case a4 => omega); (case a5 => omega); (case a6 => omega)); intro v9 t9 i9 ti9 s9 ts9 h9 tk9 v0 v1 i0 i1 s0 s1 F9 N9; (try dsimp only at N9); (try dsimp only); (try k_fold)))
theorem turned_R {word X i sd : Int} {t ti ts : Tok} {st l : Addr} {ws : List Value} (h : ∃ e : Nat, e < 262144 ∧ pc e ≤ 3 ∧ X = (e : Int)) (i0 : 0 ≤ i) (i1 : i ≤ 20) (s0 : 0 ≤ sd) (s1 : sd < 2147483647) :
    ∃ (e : Nat) (t' : Tok) (i' : Int) (ti' : Tok) (sd' : Int) (ts' : Tok), Value.int (Builtin.bitXor word X) t = Value.int (Builtin.bitXor word e) t' ∧ e < 262144 ∧ pc e ≤ 3 ∧ 0 ≤ i' ∧ i' ≤ 20 ∧ 0 ≤ sd' ∧ sd' < 2147483647 ∧
      [(st, W.listOf #[.ref l, .int i ti, .int sd ts] 0), (l, W.listOf ws.toArray 0)] = [(st, W.listOf #[.ref l, .int i' ti', .int sd' ts'] 0), (l, W.listOf ws.toArray 0)] := by
  obtain ⟨e, h1, h2, rfl⟩ := h
  exact ⟨e, t, i, ti, sd, ts, rfl, h1, h2, i0, i1, s0, s1, rfl⟩
local macro_rules | `(tactic| walk_at "pyIter ref") => `(tactic| (k_here; k_dflt (refine' turned_loop4 ?hh ?hr ?a0 ?a1 ?F ?N ?pl ?i0 ?i1 ?s0 ?s1 ?hk ?hz ?_ ?_ ?_ ?_ ?_; (case F => k_asm); (case N => k_asm); (case hr => assumption); (case hh => exact rfl); (case a0 => assumption); (case a1 => assumption); (case pl => omega); (case i0 => omega); (case i1 => omega); (case s0 => omega); (case s1 => omega); (case hk => rfl); (case hz => rfl)); all_goals (intros; (try k_fold))))
set_option maxRecDepth 100000 in
set_option maxHeartbeats 8000000 in
theorem turned_does (w : World) (st l : Addr) (hne : @LT.lt Nat _ l st) (ws : List Value) (ns : List Int) (hI : IntsAre ws ns) (hlen : ns.length ≤ 20) (i sd word size : Int) (ti ts tw tm : Tok) (hi : 0 ≤ i) (hi2 : i ≤ 20) (hs : 0 ≤ sd) (hs2 : sd < 2147483647) (hm : 0 < size) (hm2 : size ≤ 18) (hw : 0 ≤ word) (hw2 : word < 262144) :
    Does w 2 66 [.ref st, .int word tw, .int size tm] [(st, W.listOf #[.ref l, .int i ti, .int sd ts] 0), (l, W.listOf ws.toArray 0)]
      (fun r nw => ∃ (e : Nat) (t : Tok) (i' : Int) (ti' : Tok) (sd' : Int) (ts' : Tok), r = .int (Builtin.bitXor word e) t ∧ e < 262144 ∧ pc e ≤ 3 ∧ 0 ≤ i' ∧ i' ≤ 20 ∧ 0 ≤ sd' ∧ sd' < 2147483647 ∧ nw = [(st, W.listOf #[.ref l, .int i' ti', .int sd' ts'] 0), (l, W.listOf ws.toArray 0)]) := by
  dsimp only [Does]
  k_fill
  intro mean mg mb dp un gd cn cs a ccd cl outer A₀ base h₀ L m s Q E B F KX N T hk hdp hun hret
  refine wpAny_call ?_
  (refine' enterG B F KX N T rfl rfl hk ?k6 ?k7 ?k8 ?k9 ?kB ?_ ?c2 ?c3 ?c4 ?c5; (case k6 => k_is); (case k7 => k_is); (case k8 => ktr_room); (case k9 => exact BindsTo.of_eq rfl); (case c5 => decide); (case kB => exact locs rfl); (case c2 => exact rfl); (case c3 => exact rfl); (case c4 => exact rfl); k_whole; intro g' L' h' FG' F' N' B' X' T' KB' LT'; (try dsimp only); (try k_lift B'); (try k_fold))
  k_steps
  all_goals (try dsimp only [TPost, InvPostG])
  · rename News _ _ _ _ => nE
    rename OwnOff _ _ => oE
    refine' turned_end (by assumption) nE ?m1 ?m2 ?m3 ?ho ?_ ?hf rfl ?hz ?hl
    case m1 => exact .head _
    case m2 => exact .tail _ (.head _)
    case m3 => exact .tail _ (.tail _ (.head _))
    case ho => exact fun p hp => .tail _ (.tail _ (.tail _ hp))
    case hf => exact ⟨by assumption, by assumption, by assumption, by assumption, by assumption, by assumption, by assumption, by assumption⟩
    case hl => omega
    case hz => intro z h1 h2 h3; simp [h1, h2, h3]
    exact oE
  · rename News _ _ _ _ => nE
    rename OwnOff _ _ => oE
    rename _ ∧ _ ∧ _ ∧ _ ∧ AllLt _ _ => lE
    refine' turned_end (by assumption) nE ?m1 ?m2 ?m3 ?ho ?_ ?hf rfl ?hz ?hl
    case m1 => exact .head _
    case m2 => exact .tail _ (.tail _ (.tail _ (.head _)))
    case m3 => exact .tail _ (.tail _ (.tail _ (.tail _ (.head _))))
    case ho => exact fun p hp => .tail _ (.tail _ (.tail _ (.tail _ (.tail _ hp))))
    case hf => exact ⟨lE.2.2.1, by assumption, mem_snoc (by assumption) (by assumption) (by assumption), nodup_snoc (by assumption) (by assumption), by assumption, by assumption, by assumption, by assumption⟩
    case hl => simp only [List.length_append, List.length_cons, List.length_nil]; omega
    case hz => intro z h1 h2 h3; simp [h1, h2, h3]
    intro p hp b hb e
    simp only [List.mem_cons, List.not_mem_nil, or_false] at hb
    rcases hb with hb | hb | hb
    · have := kst_ltOf lE.2.2.2.2 p hp
      rw [e, hb] at this; exact absurd this (Nat.lt_irrefl _)
    · exact oE p hp b (by rw [hb]; simp) e
    · exact oE p hp b (by rw [hb]; simp) e
  all_goals (
    rename News _ _ _ _ => nE
    refine hret _ _ _ _ ?_ (by assumption) (news_drop2 nE) (by assumption)
    refine turned_R ?_ (by assumption) (by assumption) (by assumption) (by assumption)
    first
      | exact flip0
      | exact flip1 (by assumption) (by assumption) hm2
      | exact flip2 (by assumption) (by assumption) (by assumption) (by assumption) (by assumption) hm2
      | exact flip3 (by assumption) (by assumption) (by assumption) (by assumption) (by assumption) (by assumption) (by assumption) (by assumption) (by assumption) hm2)
end Mine
-- BJX
namespace Mine
open PySem PySem.W PySem.Calls PyProof.Rows PyProof.V PySem.Spec
set_option maxRecDepth 100000
structure MC where
  pl : Addr
  vs : List Value
  ps : List Int
  co : Obj
abbrev mLed (ca pl : Addr) (vs : List Value) (co : Obj) : List (Addr × Obj) := [(pl, W.listOf vs.toArray 0), (ca, co)]
structure MFacts (ca : Addr) (c : MC) : Prop where
  hlt : @LT.lt Nat _ ca c.pl
  hvs : IntsAre c.vs c.ps
  hco : ∃ v₀, c.co.data = .cell v₀
def stepM (sz dv dg : Int) (ms : List Int) (k : Int) : List Int := ms ++ ms.map (fun k' => Builtin.bitXor k' (2 ^ (k + dg).toNat + restF (2 ^ (k + dg).toNat) sz dv dg))
theorem stepM_length (sz dv dg : Int) (ms : List Int) (k : Int) : (stepM sz dv dg ms k).length = 2 * ms.length := by
  unfold stepM; rw [List.length_append, List.length_map]; omega
theorem marks_length (sz dv dg : Int) : ∀ (pre : List Int) (ms : List Int), (pre.foldl (stepM sz dv dg) ms).length = 2 ^ pre.length * ms.length
  | [], ms => by simp
  | k :: pre, ms => by
    rw [List.foldl_cons, marks_length sz dv dg pre, stepM_length, List.length_cons, Nat.pow_succ, Nat.mul_assoc]
def MPost (h₀ : Heap) (L ca : Addr) (x : Str) (m₀ : Str → Option Value) (qs : List Int) (own : List (Addr × Obj)) (s₁ : Shared) (Q : Flow → Shared → Prop) (f : Flow) (s₂ : Shared) : Prop :=
  InvPostG h₀ L (fun m nx => ∃ c : MC, nx = mLed ca c.pl c.vs c.co ∧ MFacts ca c ∧ m (Str.ofString "marks") = some (.ref c.pl) ∧ (∀ z, z ≠ x → z ≠ Str.ofString "marks" → m z = m₀ z) ∧ c.ps = qs) own s₁ Q f s₂
section
variable {prog : Program} {w : World} {A : Around} {E : Value → Shared → Prop} {s : Shared} {env : Env} {h₀ : Heap} {x : Str} {body : List Stmt} {Q : Flow → Shared → Prop}
theorem marks_loop {r ca pl₀ : Addr} {v sz dv dg : Int} {t₀ u₀ v₀ tz : Tok} {ta td tg : Tok} {m₀ : Str → Option Value} {o₀ : Obj} {w₀ : Option Value}
    (hh : A.handled = none) (hr : IsRange s.heap r 0 v 1 t₀ u₀ v₀) (hv0 : 0 ≤ v) (hv : v ≤ 6) (F : Fr h₀ env.locals s.heap m₀) (N : News h₀ env.locals s.heap (mLed ca pl₀ [.int 0 tz] o₀)) (hpl : @LT.lt Nat _ ca pl₀) (hco : o₀.data = .cell w₀)
    (hk : m₀ (Str.ofString "marks") = some (.ref pl₀)) (_a : m₀ (Str.ofString "size") = some (.int sz ta)) (_d : m₀ (Str.ofString "divisor") = some (.int dv td)) (_g : m₀ (Str.ofString "degree") = some (.int dg tg))
    (turn : ∀ (pl : Addr) (vs : List Value) (ps : List Int) (co : Obj) (v₀ : Option Value) (k : Int) (t : Tok) (u : Str → Option Value) (h : Heap) (tk : Nat) (own : List (Addr × Obj)), @LT.lt Nat _ ca pl → IntsAre vs ps → ps.length ≤ 32 → co.data = .cell v₀ → 0 ≤ k → k < v → OwnOff own [pl, ca] →
      Fr h₀ env.locals h (fun y => if y = x then some (.int k t) else if y = Str.ofString "marks" then some (.ref pl) else if List.contains [] y then u y else m₀ y) → News h₀ env.locals h ((pl, W.listOf vs.toArray 0) :: (ca, co) :: own) →
      wpAny (model prog w) A (execs body env) (MPost h₀ env.locals ca x m₀ (stepM sz dv dg ps k) own { s with heap := h, toks := tk } Q) E { s with heap := h, toks := tk })
    (done : ∀ (pl : Addr) (vs : List Value) (co : Obj) (v₀ : Option Value) (u : Str → Option Value) (h : Heap) (tk : Nat), @LT.lt Nat _ ca pl → IntsAre vs ((rangeKs 0 v.toNat).foldl (stepM sz dv dg) [0]) → co.data = .cell v₀ →
      Fr h₀ env.locals h (fun y => if y = x then u y else if y = Str.ofString "marks" then some (.ref pl) else if List.contains [] y then u y else m₀ y) → News h₀ env.locals h [(pl, W.listOf vs.toArray 0), (ca, co)] → Q .next { s with heap := h, toks := tk }) :
    wpAny (model prog w) A (pyIter (.ref r)) (fun it s₂ => LoopAtV prog w A h₀ env x body Q E it s₂) E s := by
  have h6 : v = 0 ∨ v = 1 ∨ v = 2 ∨ v = 3 ∨ v = 4 ∨ v = 5 ∨ v = 6 := by omega
  refine rangeG (σ := MC) (n := v.toNat) (fun c => mLed ca c.pl c.vs c.co) (fun c => [(Str.ofString "marks", .ref c.pl)]) (MFacts ca) [] (fun pre c => c.ps = pre.foldl (stepM sz dv dg) [0]) ⟨pl₀, [.int 0 tz], [0], o₀⟩
    hh hr ?_ ?_ F N ⟨hpl, .cons _ _ .nil, ⟨_, hco⟩⟩ ?_ rfl ?_ ?_
  · rcases h6 with rfl | rfl | rfl | rfl | rfl | rfl | rfl <;> decide
  · rcases h6 with rfl | rfl | rfl | rfl | rfl | rfl | rfl <;> decide
  · intro p hp
    rw [List.mem_singleton.mp hp]; exact hk
  · rintro ⟨pl, vs, ps, co⟩ pre k t u h tk own hk' hn hoff hf hP F' N'
    have hP' : ps = pre.foldl (stepM sz dv dg) [0] := hP
    have hl : ps.length ≤ 32 := by
      rw [hP', marks_length]
      have : 2 ^ pre.length ≤ 2 ^ 5 := Nat.pow_le_pow_right (by decide) (by omega)
      simp only [List.length_cons, List.length_nil]; omega
    obtain ⟨w₁, hw⟩ := hf.hco
    refine wpAny_mono (turn pl vs ps co w₁ k t u h tk own hf.hlt hf.hvs hl hw (by omega) (by omega) hoff F' N') (fun f s₂ hpost => ?_) fun _ _ e => e
    have fin : InvEndG h₀ env.locals (fun m nx => ∃ c : MC, nx = mLed ca c.pl c.vs c.co ∧ MFacts ca c ∧ m (Str.ofString "marks") = some (.ref c.pl) ∧ (∀ z, z ≠ x → z ≠ Str.ofString "marks" → m z = m₀ z) ∧ c.ps = stepM sz dv dg ps k) own { s with heap := h, toks := tk } s₂ →
        InvEndG h₀ env.locals (KstS (fun c : MC => mLed ca c.pl c.vs c.co) (fun c => [(Str.ofString "marks", Value.ref c.pl)]) (MFacts ca) x [] m₀ (fun pre c => c.ps = pre.foldl (stepM sz dv dg) [0]) (pre ++ [k])) own { s with heap := h, toks := tk } s₂ := by
      rintro ⟨h', tk', m', news', nx, e, F2, N2, hn2, ho2, ha2, c, e1, e2, e3, e4, e5⟩
      refine ⟨h', tk', m', news', nx, e, F2, N2, hn2, ho2, ha2, c, e1, e2, ?_, ?_, ?_⟩
      · intro p hp
        rw [List.mem_singleton.mp hp]; exact e3
      · intro z h1 h2 h3
        exact e4 z h1 (h2 _ (.head _))
      · show c.ps = (pre ++ [k]).foldl (stepM sz dv dg) [0]
        rw [e5, List.foldl_append, hP']; rfl
    cases f with
    | ret v => exact hpost
    | brk => exact hpost
    | next => exact fin hpost
    | cont => exact fin hpost
  · rintro ⟨pl, vs, ps, co⟩ u h tk hf hP F' N'
    obtain ⟨w₁, hw⟩ := hf.hco
    have hP' : ps = (rangeKs 0 v.toNat).foldl (stepM sz dv dg) [0] := hP
    have hi := hf.hvs
    exact done pl vs co w₁ u h tk hf.hlt (by rw [← hP']; exact hi) hw F' N'
theorem marks_end {h₀ h' : Heap} {L ca pl : Addr} {vs : List Value} {ps : List Int} {co : Obj} {v₀ : Option Value} {x : Str} {m₀ m' : Str → Option Value} {tk : Nat} {own news' : List (Addr × Obj)} {s₁ : Shared}
    (F : Fr h₀ L h' m') (N : News h₀ L h' news') (hm1 : (pl, W.listOf vs.toArray 0) ∈ news') (hm2 : (ca, co) ∈ news') (ho : ∀ p ∈ own, p ∈ news') (hoff : OwnOff own [pl, ca]) (hlt : @LT.lt Nat _ ca pl) (hI : IntsAre vs ps) (hco : co.data = .cell v₀)
    (hp : m' (Str.ofString "marks") = some (.ref pl)) (hz : ∀ z, z ≠ x → z ≠ Str.ofString "marks" → m' z = m₀ z) :
    InvEndG h₀ L (fun m nx => ∃ c : MC, nx = mLed ca c.pl c.vs c.co ∧ MFacts ca c ∧ m (Str.ofString "marks") = some (.ref c.pl) ∧ (∀ z, z ≠ x → z ≠ Str.ofString "marks" → m z = m₀ z) ∧ c.ps = ps) own s₁ { s₁ with heap := h', toks := tk } :=
  InvEndG.intro (nx := mLed ca pl vs co) F N ⟨⟨pl, vs, ps, co⟩, rfl, ⟨hlt, hI, ⟨_, hco⟩⟩, hp, hz, rfl⟩ hoff (fun p hp => by
    simp only [mLed, List.mem_cons, List.not_mem_nil, or_false] at hp
    rcases hp with rfl | rfl
    · exact hm1
    · exact hm2) ho
end
end Mine
-- BJW
namespace Mine
open PySem PySem.W PySem.Calls PyProof.Rows
local macro_rules | `(tactic| walk_at "call ref") => `(tactic| (k_here; k_dflt (refine' int_use (rest_does _ _ _ _ _ _ _ _ _ ?h0 ?h1 ?h2 ?h3 ?h4) ?k1 ?k2 ?k3 ?k4 ?k5 ?kK ?kd ?ku ?_; (case k1 => k_asm); (case k2 => k_asm); (case k3 => k_asm); (case k4 => k_asm); (case k5 => k_asm); (case kK => first | exact rfl | assumption); (case kd => ktr_room); (case ku => ktr_units); (case h0 => omega); (case h1 => omega); (case h2 => omega); (case h3 => omega); (case h4 => omega)); intro t9 h9 tk9 F9 N9; (try dsimp only); (try k_fold)))
local macro_rules | `(tactic| walk_at "pyIter ref") => `(tactic| (k_here; k_dflt (refine' marks_loop ?hh ?hr ?a0 ?a1 ?F ?N ?pl ?hco ?hk ?ha ?hd ?hg ?_ ?_; (case F => k_asm); (case N => k_asm); (case hr => assumption); (case hh => exact rfl); (case a0 => assumption); (case a1 => assumption); (case pl => omega); (case hco => assumption); (case hk => rfl); (case ha => rfl); (case hd => rfl); (case hg => rfl)); all_goals (intros; (try k_fold))))
local macro_rules | `(tactic| walk_at "no such key") => `(tactic| fail)
/-- as Does with nothing owned; what is handed back is new -/
abbrev DoesF (w : World) (n : Nat) (f : Addr) (vs : List Value) (R : Value → List (Addr × Obj) → Prop) : Prop :=
  ∀ (mean : ExcName → Option Value) (mg mb : Str → Option Value) (dp un : Nat) (gd : Option (List Code)) (cn : Str) (cs : Scope) (a : Addr) (ccd : Value) (cl : List (Str × Addr)) (outer : List Env) (A₀ : Around) (base h₀ : Heap) (L : Addr) (m : Str → Option Value) (s : Shared) (Q E : Value → Shared → Prop),
    Below A₀ base outer h₀ → Fr h₀ L s.heap m → (hd.heap_39 w.params).In h₀ → News h₀ L s.heap [] → Top hd.view_39 (looseW hd.view_39 []) mean mg mb h₀ → cs.kind = .function → dp + n < recursionLimit → un + 8 * n < cLine →
    (∀ (r : Value) (nw : List (Addr × Obj)) (h' : Heap) (tk' : Nat), R r nw → Fr h₀ L h' m → News h₀ L h' nw → (∀ p ∈ nw, s.heap.get? p.1 = none) → KeptBut [] s.heap h' → Q r { s with heap := h', toks := tk' }) →
    wpAny (model Challenge.rw_bj0057_01.row.prog w) (ktrTop dp un gd cn cs L a ccd cl outer) (call (.ref f) vs) Q E s
theorem fresh_of {g h h' : Heap} {L : Addr} {nw : List (Addr × Obj)} (N : News g L h' nw) (kb : KeptBut [] h g) : ∀ p ∈ nw, h.get? p.1 = none := fun p hp => by
  cases e : h.get? p.1 with
  | none => rfl
  | some o => have := kb _ _ e (fun h => nomatch h); rw [(N p hp).2.2] at this; cases this
set_option maxRecDepth 100000 in
set_option maxHeartbeats 8000000 in
theorem marks_does (w : World) (fi sz dv dg : Int) (t t1 t2 t3 : Tok) (f0 : 0 ≤ fi) (f1 : fi ≤ 6) (h0 : 0 ≤ dg) (h1 : dg < sz) (h2 : sz ≤ 18) (h3 : 0 ≤ dv) (h4 : dv < 8192) :
    DoesF w 2 54 [.int fi t, .int sz t1, .int dv t2, .int dg t3] (fun r nw => ∃ (pl : Addr) (vs : List Value), r = .ref pl ∧ IntsAre vs ((rangeKs 0 fi.toNat).foldl (stepM sz dv dg) [0]) ∧ nw = [(pl, W.listOf vs.toArray 0)]) := by
  dsimp only [DoesF]
  k_fill
  intro mean mg mb dp un gd cn cs a ccd cl outer A₀ base h₀ L m s Q E B F KX N T hk hdp hun hret
  refine wpAny_call ?_
  (refine' enterGC B F KX N T rfl rfl hk ?k6 ?k7 ?k8 ?k9 ?kB ?kD ?_ ?c2 ?c3 ?c4; (case k6 => k_is); (case k7 => k_is); (case k8 => ktr_room); (case k9 => exact BindsTo.of_eq rfl); (case kB => exact rfl); (case kD => decide +kernel); (case c2 => exact rfl); (case c3 => exact rfl); (case c4 => exact rfl); k_whole; intro g' L' h' tk' cells' FG' F' N' Y' B' X' T' KB' l1; (try k_lt l1); k_cells Y'; (try simp only [List.cons_append, List.nil_append] at N'); (try dsimp only); (try k_lift B'); (try k_fold))
  k_steps
  all_goals (try dsimp only [MPost, InvPostG])
  · rename News _ _ _ _ => nE
    rename OwnOff _ _ => oE
    rename _ ∧ _ ∧ _ ∧ AllLt _ _ => lE
    rename IntsAre _ (_ ++ _) => iE
    refine' marks_end (by assumption) nE ?m1 ?m2 ?ho ?_ lE.2.2.1 iE (by assumption) rfl ?hz
    case m1 => exact .head _
    case m2 => exact .tail _ (.tail _ (.tail _ (.head _)))
    case ho => exact fun p hp => .tail _ (.tail _ (.tail _ (.tail _ hp)))
    case hz => intro z h1 h2; simp [h1, h2]
    intro p hp b hb e
    simp only [List.mem_cons, List.not_mem_nil, or_false] at hb
    rcases hb with hb | hb
    · have := kst_ltOf lE.2.2.2 p hp
      rw [e, hb] at this; exact absurd this (Nat.lt_irrefl _)
    · exact oE p hp b (by rw [hb]; simp) e
  · rename News _ _ _ _ => nE
    have nG := fresh_of (by assumption : News g' _ _ _) KB'
    refine hret _ _ _ _ ⟨_, _, rfl, by assumption, rfl⟩ (by assumption) ?_ ?_ (by assumption)
    · intro p hp
      rcases List.mem_singleton.mp hp with rfl
      exact nE _ (.head _)
    · intro p hp
      rcases List.mem_singleton.mp hp with rfl
      exact nG _ (.head _)
end Mine
-- BJY0
namespace Mine
open PySem PySem.W PySem.Calls PyProof.Rows
theorem turned_use {w : World} {mean : ExcName → Option Value} {mg mb : Str → Option Value} {dp un : Nat} {gd : Option (List Code)} {cn : Str} {cs : Scope} {a : Addr} {ccd : Value} {cl : List (Str × Addr)} {outer : List Env} {A₀ : Around} {base h₀ : Heap} {L : Addr} {m : Str → Option Value} {s : Shared} {Q E : Value → Shared → Prop} {news : List (Addr × Obj)}
    {st l : Addr} {ws : List Value} {ns : List Int} {i sd word size : Int} {ti ts tw tm : Tok} {g : Obj → List (Addr × Obj)}
    (B : Below A₀ base outer h₀) (F : Fr h₀ L s.heap m) (X : (hd.heap_39 w.params).In h₀) (N : News h₀ L s.heap news) (T : Top hd.view_39 (looseW hd.view_39 []) mean mg mb h₀) (hk : cs.kind = .function) (hdp : dp + 2 < recursionLimit) (hun : un + 8 * 2 < cLine)
    (U : UpdF st (W.listOf #[.ref l, .int i ti, .int sd ts] 0) news g) (hl : (l, W.listOf ws.toArray 0) ∈ news) (hI : IntsAre ws ns)
    (hne : @LT.lt Nat _ l st) (hlen : ns.length ≤ 20) (hi : 0 ≤ i) (hi2 : i ≤ 20) (hs : 0 ≤ sd) (hs2 : sd < 2147483647) (hm : 0 < size) (hm2 : size ≤ 18) (hw : 0 ≤ word) (hw2 : word < 262144)
    (ret : ∀ (e : Nat) (t : Tok) (i' : Int) (ti' : Tok) (sd' : Int) (ts' : Tok) (h' : Heap) (tk' : Nat), e < 262144 → pc e ≤ 3 → 0 ≤ i' → i' ≤ 20 → 0 ≤ sd' → sd' < 2147483647 → Fr h₀ L h' m → News h₀ L h' (g (W.listOf #[.ref l, .int i' ti', .int sd' ts'] 0)) → Q (.int (Builtin.bitXor word e) t) { s with heap := h', toks := tk' }) :
    wpAny (model Challenge.rw_bj0057_01.row.prog w) (ktrTop dp un gd cn cs L a ccd cl outer) (call (.ref 66) [.ref st, .int word tw, .int size tm]) Q E s := by
  obtain ⟨pre, post, e1, e2, h1, h2⟩ := U.split
  have hst : (st, W.listOf #[.ref l, .int i ti, .int sd ts] 0) ∈ news := by rw [e1]; exact List.mem_append_right _ (.head _)
  refine turned_does w st l hne ws ns hI hlen i sd word size ti ts tw tm hi hi2 hs hs2 hm hm2 hw hw2 mean mg mb dp un gd cn cs a ccd cl outer A₀ base h₀ L m s Q E B F X ?_ T hk hdp hun ?_
  · intro p hp
    rcases List.mem_cons.mp hp with rfl | hp
    · exact N _ hst
    · rcases List.mem_singleton.mp hp with rfl
      exact N _ hl
  · rintro r nw h' tk' ⟨e, t, i', ti', sd', ts', rfl, v0, v1, i0, i1, s0, s1, rfl⟩ F' N' kb
    refine ret e t i' ti' sd' ts' h' tk' v0 v1 i0 i1 s0 s1 F' ?_
    rw [e2]
    have hz := N' _ (.head _)
    have hy := N' (l, W.listOf ws.toArray 0) (.tail _ (.head _))
    have old : ∀ p ∈ news, p.1 ≠ st → h'.get? p.1 = some p.2 ∧ p.1 ≠ L ∧ h₀.get? p.1 = none := by
      intro p hp hps
      refine ⟨?_, (N p hp).2⟩
      by_cases hpl : p.1 = l
      · have e3 := (N p hp).1
        rw [hpl, (N _ hl).1] at e3
        rw [hpl, hy.1]; exact e3
      · exact kb _ _ (N p hp).1 (by intro hm; rcases List.mem_cons.mp hm with q | hm; exact hps q; exact hpl (List.mem_singleton.mp hm))
    intro p hp
    rcases List.mem_append.mp hp with hp | hp
    · exact old p (by rw [e1]; exact List.mem_append_left _ hp) (h1 p hp)
    · rcases List.mem_cons.mp hp with rfl | hp
      · exact hz
      · exact old p (by rw [e1]; exact List.mem_append_right _ (.tail _ hp)) (h2 p hp)
theorem off1_of {D : Addr} : ∀ {l : List (Addr × Obj)}, (∀ p ∈ l, p.1 ≠ D) → LCg.Off1 D l
  | [], _ => trivial
  | p :: _, h => ⟨h p (.head _), off1_of fun q hq => h q (.tail _ hq)⟩
theorem marks_use {w : World} {mean : ExcName → Option Value} {mg mb : Str → Option Value} {dp un : Nat} {gd : Option (List Code)} {cn : Str} {cs : Scope} {a : Addr} {ccd : Value} {cl : List (Str × Addr)} {outer : List Env} {A₀ : Around} {base h₀ : Heap} {L : Addr} {m : Str → Option Value} {s : Shared} {Q E : Value → Shared → Prop} {news : List (Addr × Obj)}
    {fi sz dv dg : Int} {t t1 t2 t3 : Tok} {M : List Int}
    (B : Below A₀ base outer h₀) (F : Fr h₀ L s.heap m) (X : (hd.heap_39 w.params).In h₀) (N : News h₀ L s.heap news) (T : Top hd.view_39 (looseW hd.view_39 []) mean mg mb h₀) (hk : cs.kind = .function) (hdp : dp + 2 < recursionLimit) (hun : un + 8 * 2 < cLine)
    (f0 : 0 ≤ fi) (f1 : fi ≤ 6) (h0 : 0 ≤ dg) (h1 : dg < sz) (h2 : sz ≤ 18) (h3 : 0 ≤ dv) (h4 : dv < 8192) {kk : Nat} (hM : (rangeKs 0 fi.toNat).foldl (stepM sz dv dg) [0] = M ∧ M.length = kk)
    (ret : ∀ (pl : Addr) (vs : List Value) (h' : Heap) (tk' : Nat), M.length = kk → IntsAre vs M → LCg.Off1 pl news → Fr h₀ L h' m → News h₀ L h' ((pl, W.listOf vs.toArray 0) :: news) → Q (.ref pl) { s with heap := h', toks := tk' }) :
    wpAny (model Challenge.rw_bj0057_01.row.prog w) (ktrTop dp un gd cn cs L a ccd cl outer) (call (.ref 54) [.int fi t, .int sz t1, .int dv t2, .int dg t3]) Q E s := by
  refine marks_does w fi sz dv dg t t1 t2 t3 f0 f1 h0 h1 h2 h3 h4 mean mg mb dp un gd cn cs a ccd cl outer A₀ base h₀ L m s Q E B F X News.nil T hk hdp hun ?_
  rintro r nw h' tk' ⟨pl, vs, rfl, hI, rfl⟩ F' N' fr kb
  refine ret pl vs h' tk' hM.2 (hM.1 ▸ hI) (off1_of fun p hp e => ?_) F' ?_
  · have := fr _ (.head _)
    rw [show pl = p.1 from e.symm, (N p hp).1] at this; cases this
  · intro p hp
    rcases List.mem_cons.mp hp with rfl | hp
    · exact N' _ (.head _)
    · exact news_kept0 N kb p hp
@[irreducible] def M1I : List Int := M1.map fun n : Nat => (n : Int)
@[irreducible] def M2I : List Int := M2.map fun n : Nat => (n : Int)
set_option maxRecDepth 100000 in
theorem marks1 : (rangeKs 0 (5 : Int).toNat).foldl (stepM 15 1335 10) [0] = M1I ∧ M1I.length = 32 := by decide +kernel
set_option maxRecDepth 100000 in
theorem marks2 : (rangeKs 0 (6 : Int).toNat).foldl (stepM 18 7973 12) [0] = M2I ∧ M2I.length = 64 := by decide +kernel
set_option maxRecDepth 100000 in
theorem info_law : ∀ n : Nat, n < 32 → (Builtin.bitXor (infoV n) 21522).fdiv 1024 = n ∧ restF (Builtin.bitXor (infoV n) 21522) 15 1335 10 = 0 ∧ infoV n < 32768 := by decide +kernel
set_option maxRecDepth 100000 in
theorem number_law : ∀ n : Nat, n < 64 → (numberV n).fdiv 4096 = n ∧ restF (numberV n) 18 7973 12 = 0 ∧ numberV n < 262144 := by decide +kernel
theorem compEnd3 {h₀ : Heap} {L I C D : Addr} {m : Str → Option Value} {s₁ : Shared} {oI oC oD : Obj} {S : List (Addr × Obj) → Prop} {rest : Value → List (Addr × Obj) → Prop} {y : Value} {h' : Heap} {tk : Nat} {news' : List (Addr × Obj)}
    (F : Fr h₀ L h' m) (N : News h₀ L h' ((I, oI) :: (C, oC) :: (D, oD) :: news')) (off : LCg.Off3 I C D news') (hS : S news') (r : rest y news') :
    LCg.CompEnd h₀ L m s₁ I oI C oC D oD S rest y { s₁ with heap := h', toks := tk } := ⟨h', tk, news', rfl, F, N, off, hS, r⟩
structure NearMin (M : Int) (xs : List Int) : Prop where
  hmem : M ∈ xs
  hle : ∀ a, a ∈ xs → M ≤ a
theorem info_nn (n : Nat) : 0 ≤ infoV n := by unfold infoV; omega
theorem number_nn (n : Nat) : 0 ≤ numberV n := by unfold numberV; omega
theorem info_use {w : World} {mean : ExcName → Option Value} {mg mb : Str → Option Value} {dp un : Nat} {gd : Option (List Code)} {cn : Str} {cs : Scope} {a : Addr} {ccd : Value} {cl : List (Str × Addr)} {outer : List Env} {A₀ : Around} {base h₀ : Heap} {L : Addr} {m : Str → Option Value} {s : Shared} {Q E : Value → Shared → Prop} {news : List (Addr × Obj)}
    {x : Int} {t : Tok}
    (B : Below A₀ base outer h₀) (F : Fr h₀ L s.heap m) (X : (hd.heap_39 w.params).In h₀) (N : News h₀ L s.heap news) (T : Top hd.view_39 (looseW hd.view_39 []) mean mg mb h₀) (hk : cs.kind = .function) (hdp : dp + 2 < recursionLimit) (hun : un + 8 * 2 < cLine)
    (h0 : 0 ≤ x) (h1 : x < 32)
    (ret : ∀ (y : Int) (t : Tok) (h' : Heap) (tk' : Nat), y = infoV x → (Builtin.bitXor y 21522).fdiv 1024 = x → restF (Builtin.bitXor y 21522) 15 1335 10 = 0 → 0 ≤ y → y < 32768 → Fr h₀ L h' m → News h₀ L h' news → Q (.int y t) { s with heap := h', toks := tk' }) :
    wpAny (model Challenge.rw_bj0057_01.row.prog w) (ktrTop dp un gd cn cs L a ccd cl outer) (call (.ref 21) [.int x t]) Q E s := by
  have f := info_law x.toNat (by omega)
  have g := info_nn x.toNat
  rw [Int.toNat_of_nonneg h0] at f g
  exact int_use (info_does w x t h0 h1) B F X N T hk hdp hun fun t h' tk' F' N' => ret _ t h' tk' rfl f.1 f.2.1 g f.2.2 F' N'
theorem number_use {w : World} {mean : ExcName → Option Value} {mg mb : Str → Option Value} {dp un : Nat} {gd : Option (List Code)} {cn : Str} {cs : Scope} {a : Addr} {ccd : Value} {cl : List (Str × Addr)} {outer : List Env} {A₀ : Around} {base h₀ : Heap} {L : Addr} {m : Str → Option Value} {s : Shared} {Q E : Value → Shared → Prop} {news : List (Addr × Obj)}
    {x : Int} {t : Tok}
    (B : Below A₀ base outer h₀) (F : Fr h₀ L s.heap m) (X : (hd.heap_39 w.params).In h₀) (N : News h₀ L s.heap news) (T : Top hd.view_39 (looseW hd.view_39 []) mean mg mb h₀) (hk : cs.kind = .function) (hdp : dp + 2 < recursionLimit) (hun : un + 8 * 2 < cLine)
    (h0 : 0 ≤ x) (h1 : x < 64)
    (ret : ∀ (y : Int) (t : Tok) (h' : Heap) (tk' : Nat), y = numberV x → y.fdiv 4096 = x → restF y 18 7973 12 = 0 → 0 ≤ y → y < 262144 → Fr h₀ L h' m → News h₀ L h' news → Q (.int y t) { s with heap := h', toks := tk' }) :
    wpAny (model Challenge.rw_bj0057_01.row.prog w) (ktrTop dp un gd cn cs L a ccd cl outer) (call (.ref 28) [.int x t]) Q E s := by
  have f := number_law x.toNat (by omega)
  have g := number_nn x.toNat
  rw [Int.toNat_of_nonneg h0] at f g
  exact int_use (number_does w x t h0 h1) B F X N T hk hdp hun fun t h' tk' F' N' => ret _ t h' tk' rfl f.1 f.2.1 g f.2.2 F' N'
end Mine
-- BJP
namespace Mine
open PySem PySem.W PySem.Calls PyProof.Rows
set_option maxRecDepth 100000 in
theorem dist1 : ∀ i : Nat, i < 32 → ∀ n : Nat, n < 32 → M1.getD i 0 ^^^ 21522 < 262144 ∧ (i ≠ n → 7 ≤ pc ((M1.getD i 0 ^^^ 21522) ^^^ (M1.getD n 0 ^^^ 21522))) := by decide +kernel
set_option maxRecDepth 100000 in
theorem dist2 : ∀ i : Nat, i < 64 → ∀ n : Nat, n < 64 → M2.getD i 0 < 262144 ∧ (i ≠ n → 8 ≤ pc (M2.getD i 0 ^^^ M2.getD n 0)) := by decide +kernel
theorem pc_far {a b e : Nat} (he : pc e ≤ 3) (h : 7 ≤ pc (a ^^^ b)) : 4 ≤ pc (a ^^^ (b ^^^ e)) := by
  have h1 := pcF_xor 18 (a ^^^ (b ^^^ e)) e
  rw [← Nat.xor_assoc, Nat.xor_assoc (a ^^^ b), Nat.xor_self, Nat.xor_zero] at h1
  unfold pc at *
  rw [Nat.xor_assoc] at h1
  omega
theorem pc_near {b e : Nat} : pc (b ^^^ (b ^^^ e)) = pc e := by rw [← Nat.xor_assoc, Nat.xor_self, Nat.zero_xor]
theorem getM1 (i : Nat) : M1I.getD i 0 = ((M1.getD i 0 : Nat) : Int) := by
  unfold M1I
  simp only [List.getD_eq_getElem?_getD, List.getElem?_map]
  cases M1[i]? <;> rfl
theorem getM2 (i : Nat) : M2I.getD i 0 = ((M2.getD i 0 : Nat) : Int) := by
  unfold M2I
  simp only [List.getD_eq_getElem?_getD, List.getElem?_map]
  cases M2[i]? <;> rfl
theorem one_val (i : Nat) : Builtin.bitXor (M1I.getD i 0) 21522 = ((M1.getD i 0 ^^^ 21522 : Nat) : Int) := by
  rw [getM1]; exact xor_nat _ 21522
theorem apart1 {i n e : Nat} (hi : i < 32) (hn : n < 32) (he : e < 262144) (h3 : pc e ≤ 3) :
    (i = n → apartF (Builtin.bitXor (M1I.getD i 0) 21522) (Builtin.bitXor (infoV n) e) = pc e) ∧ (i ≠ n → 4 ≤ apartF (Builtin.bitXor (M1I.getD i 0) 21522) (Builtin.bitXor (infoV n) e)) := by
  have e1 : infoV (n : Int) = ((M1.getD n 0 ^^^ 21522 : Nat) : Int) := by unfold infoV; rw [Int.toNat_natCast]
  have d := dist1 i hi n hn
  have d' := (dist1 n hn i hi).1
  rw [one_val, e1, xor_nat, apart_nat d.1 (Nat.xor_lt_two_pow (n := 18) d' he)]
  refine ⟨fun q => ?_, fun q => ?_⟩
  · subst q; rw [pc_near]
  · have := pc_far h3 (d.2 q); omega
theorem apart2 {i n e : Nat} (hi : i < 64) (hn : n < 64) (he : e < 262144) (h3 : pc e ≤ 3) :
    (i = n → apartF (M2I.getD i 0) (Builtin.bitXor (numberV n) e) = pc e) ∧ (i ≠ n → 4 ≤ apartF (M2I.getD i 0) (Builtin.bitXor (numberV n) e)) := by
  have e1 : numberV (n : Int) = ((M2.getD n 0 : Nat) : Int) := by unfold numberV; rw [Int.toNat_natCast]
  have d := dist2 i hi n hn
  have d' := (dist2 n hn i hi).1
  rw [getM2, e1, xor_nat, apart_nat d.1 (Nat.xor_lt_two_pow (n := 18) d' he)]
  refine ⟨fun q => ?_, fun q => ?_⟩
  · subst q; rw [pc_near]
  · have := pc_far h3 (Nat.le_trans (by decide) (d.2 q)); omega
theorem fold_is {P : Int → Prop} [DecidablePred P] {x : Int} : ∀ (ks acc : List Int), (∀ k ∈ ks, P k ↔ k = x) →
    ks.foldl (fun l k => if P k then l ++ [k] else l) acc = acc ++ ks.filter (fun k => decide (k = x))
  | [], acc, _ => by simp
  | k :: ks, acc, h => by
    have hk := h k (.head _)
    rw [List.foldl_cons, fold_is ks _ fun k' hk' => h k' (.tail _ hk')]
    by_cases c : k = x
    · rw [if_pos (hk.2 c), List.filter_cons_of_pos (by simpa using c), List.append_assoc]; rfl
    · rw [if_neg (fun p => c (hk.1 p)), List.filter_cons_of_neg (by simpa using c)]
theorem pick1 : ∀ n : Nat, n < 32 → (rangeKs 0 32).filter (fun k => decide (k = (n : Int))) = [(n : Int)] := by decide +kernel
theorem pick2 : ∀ n : Nat, n < 41 → 7 ≤ n → (rangeKs 7 34).filter (fun k => decide (k = (n : Int))) = [(n : Int)] := by decide +kernel
/-- what is left of the nearest: the number of places turned -/
structure NearIs (M : Int) (e : Nat) : Prop where
  h : M = (pc e : Int)
theorem mem1 {k : Int} (h : k ∈ M1I) : ∃ i : Nat, i < 32 ∧ k = M1I.getD i 0 := by
  obtain ⟨i, hi, rfl⟩ := List.mem_iff_getElem.mp h
  exact ⟨i, by rw [← marks1.2]; exact hi, by simp [List.getD_eq_getElem?_getD, List.getElem?_eq_getElem hi]⟩
theorem near1 {x y M : Int} {e : Nat} (hy : y = infoV x) (he : e < 262144) (h3 : pc e ≤ 3) (hx : 0 ≤ x) (hx2 : x < 32)
    (hm : M ∈ M1I.map (fun k' => apartF (Builtin.bitXor k' 21522) (Builtin.bitXor y e))) (hle : ∀ a, a ∈ M1I.map (fun k' => apartF (Builtin.bitXor k' 21522) (Builtin.bitXor y e)) → M ≤ a) : NearIs M e := by
  obtain ⟨k, hk, hkm⟩ := List.mem_map.mp hm
  obtain ⟨i, hi, rfl⟩ := mem1 hk
  obtain ⟨n, rfl⟩ := Int.eq_ofNat_of_zero_le hx
  subst hy
  have a1 := apart1 (i := i) (n := n) hi (by omega) he h3
  have a2 := (apart1 (i := n) (n := n) (by omega) (by omega) he h3).1 rfl
  have a3 := hle _ (List.mem_map.mpr ⟨M1I.getD n 0, ?_, rfl⟩)
  · refine ⟨?_⟩
    by_cases q : i = n
    · rw [← hkm]; exact a1.1 q
    · have := a1.2 q
      try dsimp only at hkm a3
      omega
  · have hl := marks1.2
    rw [List.getD_eq_getElem?_getD, List.getElem?_eq_getElem (by omega)]
    exact List.getElem_mem _
theorem near2 {x y M : Int} {e : Nat} (hy : y = numberV x) (he : e < 262144) (h3 : pc e ≤ 3) (hx : 7 ≤ x) (hx2 : x < 41)
    (hm : M ∈ (rangeKs 7 (41 - 7 : Int).toNat).map (fun k' => apartF (M2I.getD k'.toNat 0) (Builtin.bitXor y e))) (hle : ∀ a, a ∈ (rangeKs 7 (41 - 7 : Int).toNat).map (fun k' => apartF (M2I.getD k'.toNat 0) (Builtin.bitXor y e)) → M ≤ a) : NearIs M e := by
  obtain ⟨k, hk, hkm⟩ := List.mem_map.mp hm
  have hkr := mem_rangeKs hk
  have h34 : (41 - 7 : Int).toNat = 34 := rfl
  obtain ⟨i, rfl⟩ := Int.eq_ofNat_of_zero_le (a := k) (by omega)
  obtain ⟨n, rfl⟩ := Int.eq_ofNat_of_zero_le (a := x) (by omega)
  subst hy
  have a1 := apart2 (i := i) (n := n) (by omega) (by omega) he h3
  have a2 := (apart2 (i := n) (n := n) (by omega) (by omega) he h3).1 rfl
  have a3 := hle _ (List.mem_map.mpr ⟨(n : Int), ?_, rfl⟩)
  · refine ⟨?_⟩
    simp only [Int.toNat_natCast] at hkm a3
    by_cases q : i = n
    · rw [← hkm]; exact a1.1 q
    · have := a1.2 q
      omega
  · have : ∀ n : Nat, n < 41 → 7 ≤ n → (n : Int) ∈ rangeKs 7 (41 - 7 : Int).toNat := by decide +kernel
    exact this n (by omega) (by omega)
theorem done1 {x y M : Int} {e b : Nat} {Fin : List Value → Prop} (hM : NearIs M e) (hy : y = infoV x) (he : e < 262144) (h3 : pc e ≤ 3) (hx : 0 ≤ x) (hx2 : x < 32)
    (h : ∀ ys, IntsAre ys [x] → Fin ys) :
    KPfDone (∀ ys, IntsAre ys ((rangeKs 0 (32 - 0 : Int).toNat).foldl (fun l' k' => if apartF (Builtin.bitXor (M1I.getD k'.toNat 0) 21522) (Builtin.bitXor y e) = M then l' ++ [k'] else l') []) → ys.length ≤ b → Fin ys) := by
  intro ys hi _
  refine h ys ?_
  obtain ⟨n, rfl⟩ := Int.eq_ofNat_of_zero_le hx
  subst hy
  have f := fold_is (P := fun k' => apartF (Builtin.bitXor (M1I.getD k'.toNat 0) 21522) (Builtin.bitXor (infoV (n : Int)) e) = M) (x := (n : Int)) (rangeKs 0 (32 - 0 : Int).toNat) [] (fun k hk => by
    have hkr := mem_rangeKs hk
    obtain ⟨i, rfl⟩ := Int.eq_ofNat_of_zero_le (a := k) (by omega)
    rw [Int.toNat_natCast]
    have hi : i < 32 := by have : (32 - 0 : Int).toNat = 32 := rfl
                           omega
    have a1 := apart1 (i := i) (n := n) hi (by omega) he h3
    rw [hM.h]
    constructor
    · intro q
      by_cases c : i = n
      · rw [c]
      · have := a1.2 c; omega
    · intro q
      exact a1.1 (by omega))
  rw [f, List.nil_append, show (32 - 0 : Int).toNat = 32 from rfl, pick1 n (by omega)] at hi
  exact hi
theorem done2 {x y M : Int} {e b : Nat} {Fin : List Value → Prop} (hM : NearIs M e) (hy : y = numberV x) (he : e < 262144) (h3 : pc e ≤ 3) (hx : 7 ≤ x) (hx2 : x < 41)
    (h : ∀ ys, IntsAre ys [x] → Fin ys) :
    KPfDone (∀ ys, IntsAre ys ((rangeKs 7 (41 - 7 : Int).toNat).foldl (fun l' k' => if apartF (M2I.getD k'.toNat 0) (Builtin.bitXor y e) = M then l' ++ [k'] else l') []) → ys.length ≤ b → Fin ys) := by
  intro ys hi _
  refine h ys ?_
  obtain ⟨n, rfl⟩ := Int.eq_ofNat_of_zero_le (a := x) (by omega)
  subst hy
  have f := fold_is (P := fun k' => apartF (M2I.getD k'.toNat 0) (Builtin.bitXor (numberV (n : Int)) e) = M) (x := (n : Int)) (rangeKs 7 (41 - 7 : Int).toNat) [] (fun k hk => by
    have hkr := mem_rangeKs hk
    have h34 : (41 - 7 : Int).toNat = 34 := rfl
    obtain ⟨i, rfl⟩ := Int.eq_ofNat_of_zero_le (a := k) (by omega)
    rw [Int.toNat_natCast]
    have a1 := apart2 (i := i) (n := n) (by omega) (by omega) he h3
    rw [hM.h]
    constructor
    · intro q
      by_cases c : i = n
      · rw [c]
      · have := a1.2 c; omega
    · intro q
      exact a1.1 (by omega))
  rw [f, List.nil_append, show (41 - 7 : Int).toNat = 34 from rfl, pick2 n (by omega) (by omega)] at hi
  exact hi
end Mine
-- BJPost
namespace Mine
open PySem PySem.W PySem.Calls PyProof.Rows
set_option maxRecDepth 100000 in
set_option maxHeartbeats 400000 in
theorem post_ok (xs : List Int) : Challenge.rw_bj0057_01.row.claim.post [ofPy (PyData.list (List.map PyData.int xs))] (WData.bool true) [ofPy (PyData.list (List.map PyData.int xs))] = true := by
  wrow_post
end Mine
-- BJZ
namespace Mine
open PySem PySem.W PySem.Calls PyProof.Rows
local macro_rules | `(tactic| walk_at "call ref") => `(tactic| (k_here; k_dflt (first
  | (refine' next_use ?k1 ?k2 ?k3 ?k4 ?k5 ?kK ?kd ?ku ?kU ?kl ?kI ?hne ?hlen ?a1 ?a2 ?a3 ?a4 ?a5 ?a6 ?_; (case k1 => k_asm); (case k2 => k_asm); (case k3 => k_asm); (case k4 => k_asm); (case k5 => k_asm); (case kK => first | exact rfl | assumption); (case kd => ktr_room); (case ku => ktr_units); (case kU => k_updF); (case kl => k_mem); (case kI => l_ints); (case hne => omega); (case hlen => omega); (case a1 => omega); (case a2 => omega); (case a3 => omega); (case a4 => omega); (case a5 => omega); (case a6 => omega); intro v9 t9 i9 ti9 s9 ts9 h9 tk9 v0 v1 i0 i1 s0 s1 F9 N9; (try dsimp only at N9))
  | (refine' turned_use ?k1 ?k2 ?k3 ?k4 ?k5 ?kK ?kd ?ku ?kU ?kl ?kI ?hne ?hlen ?a1 ?a2 ?a3 ?a4 ?a5 ?a6 ?a7 ?a8 ?_; (case k1 => k_asm); (case k2 => k_asm); (case k3 => k_asm); (case k4 => k_asm); (case k5 => k_asm); (case kK => first | exact rfl | assumption); (case kd => ktr_room); (case ku => ktr_units); (case kU => k_updF); (case kl => k_mem); (case kI => l_ints); (case hne => omega); (case hlen => omega); (case a1 => omega); (case a2 => omega); (case a3 => omega); (case a4 => omega); (case a5 => omega); (case a6 => omega); (case a7 => omega); (case a8 => omega); intro e9 t9 i9 ti9 s9 ts9 h9 tk9 v0 v1 i0 i1 s0 s1 F9 N9; (try dsimp only at N9))
  | (refine' marks_use ?k1 ?k2 ?k3 ?k4 ?k5 ?kK ?kd ?ku ?a1 ?a2 ?a3 ?a4 ?a5 ?a6 ?a7 ?hM ?_; (case k1 => k_asm); (case k2 => k_asm); (case k3 => k_asm); (case k4 => k_asm); (case k5 => k_asm); (case kK => first | exact rfl | assumption); (case kd => ktr_room); (case ku => ktr_units); (case a1 => omega); (case a2 => omega); (case a3 => omega); (case a4 => omega); (case a5 => omega); (case a6 => omega); (case a7 => omega); (case hM => first | exact marks1 | exact marks2); intro pl9 vs9 h9 tk9 K9 I9 o9 F9 N9)
  | (refine' info_use ?k1 ?k2 ?k3 ?k4 ?k5 ?kK ?kd ?ku ?a1 ?a2 ?_; (case k1 => k_asm); (case k2 => k_asm); (case k3 => k_asm); (case k4 => k_asm); (case k5 => k_asm); (case kK => first | exact rfl | assumption); (case kd => ktr_room); (case ku => ktr_units); (case a1 => omega); (case a2 => omega); intro y9 t9 h9 tk9 e9 f9 g9 y0 y1 F9 N9)
  | (refine' number_use ?k1 ?k2 ?k3 ?k4 ?k5 ?kK ?kd ?ku ?a1 ?a2 ?_; (case k1 => k_asm); (case k2 => k_asm); (case k3 => k_asm); (case k4 => k_asm); (case k5 => k_asm); (case kK => first | exact rfl | assumption); (case kd => ktr_room); (case ku => ktr_units); (case a1 => omega); (case a2 => omega); intro y9 t9 h9 tk9 e9 f9 g9 y0 y1 F9 N9)
  | (refine' int_use (rest_does _ _ _ _ _ _ _ _ _ ?a1 ?a2 ?a3 ?a4 ?a5) ?k1 ?k2 ?k3 ?k4 ?k5 ?kK ?kd ?ku ?_; (case k1 => k_asm); (case k2 => k_asm); (case k3 => k_asm); (case k4 => k_asm); (case k5 => k_asm); (case kK => first | exact rfl | assumption); (case kd => ktr_room); (case ku => ktr_units); (case a1 => omega); (case a2 => omega); (case a3 => omega); (case a4 => omega); (case a5 => omega); intro t9 h9 tk9 F9 N9)
  | (refine' int_use (apart_does _ _ _ _ _) ?k1 ?k2 ?k3 ?k4 ?k5 ?kK ?kd ?ku ?_; (case k1 => k_asm); (case k2 => k_asm); (case k3 => k_asm); (case k4 => k_asm); (case k5 => k_asm); (case kK => first | exact rfl | assumption); (case kd => ktr_room); (case ku => ktr_units); intro t9 h9 tk9 F9 N9)); (try dsimp only); (try k_fold)))
theorem off1_ne {D a : Addr} {o : Obj} {l : List (Addr × Obj)} (h : LCg.Off1 D l) (hm : (a, o) ∈ l) : @Ne Nat a D := by
  induction l with
  | nil => cases hm
  | cons p r ih =>
    rcases List.mem_cons.mp hm with e | hm
    · rw [← e] at h; exact h.1
    · exact ih h.2 hm
theorem goodw_no {c : ClaimW} {cl : Str → Option Addr} {mean : ExcName → Option Value} {args : List WData} {s₁ s' : Shared} (h : False) : GoodW c cl mean args s₁ (.ok (.ret (.bool false))) s' := h.elim
theorem far15 {y : Int} (h : 2 ^ Int.toNat 15 ≤ y) (h' : y < 32768) : False := by
  have : (2 : Int) ^ Int.toNat 15 = 32768 := by decide
  omega
local macro_rules | `(tactic| k_ne) => `(tactic| (refine neN ?_; (try dsimp only); first | exact off1_ne (by assumption) (by k_mem) | exact (off1_ne (by assumption) (by k_mem)).symm | omega))
local macro_rules | `(tactic| walk_at "FinE") => `(tactic| ((unfold LCg.FinE); intro D' h' tk' F' N' o1'; (try simp only [List.nil_append, List.cons_append] at N'); (try dsimp only)))
local macro_rules | `(tactic| walk_at "call builtin:min") => `(tactic| (k_here; (with_reducible show wpAny _ _ (call (Value.builtin _) [Value.ref _]) _ _ _); (with_unfolding_all refine' kso_min ?k1 ?k2 ?k3 ?k4 ?k5 ?k6 ?_; (case k1 => k_asm); (case k2 => k_asm); (case k3 => kso_list); (case k4 => l_ints); (case k5 => (simp only [List.length_map, rangeKs_length]; first | omega | decide)); (case k6 => with_unfolding_all rfl); k_whole); intro h' M' t' k' F' N' a' b'; (first | (have n' := near1 (by assumption) (by assumption) (by assumption) (by omega) (by omega) a' b') | (have n' := near2 (by assumption) (by assumption) (by assumption) (by omega) (by omega) a' b')); clear a' b'; (try (rename IntsAre _ (List.map _ _) => hz'; clear hz')); (try k_sweep)))
local macro_rules | `(tactic| walk_at "CompEnd") => `(tactic| (k_here; (rename News _ _ _ _ => nE'); (rename Fr _ _ _ _ => fE'); k_dflt (refine' compEnd3 fE' nE' ?off ?src ?_); (case src => exact True.intro); (case off => (simp only [LCg.Off3, and_true]; assumption))))
local macro_rules | `(tactic| walk_at "KPfDone") => `(tactic| (first
  | ((refine' done1 ?a ?b ?c ?d ?e ?f ?_; (case a => assumption); (case b => assumption); (case c => assumption); (case d => assumption); (case e => omega); (case f => omega)); intro ys8 hI8)
  | ((refine' done2 ?a ?b ?c ?d ?e ?f ?_; (case a => assumption); (case b => assumption); (case c => assumption); (case d => assumption); (case e => omega); (case f => omega)); intro ys8 hI8)
  | (kpf_rest; (try (rename List.length _ ≤ _ => hB8; clear hB8)))); (try k_sweep); (rename News _ _ _ _ => nD'); (try simp only [List.nil_append, List.cons_append, List.append_nil] at nD'))
set_option maxRecDepth 100000 in
set_option maxHeartbeats 8000000 in
theorem whole : PySem.Challenge.rw_bj0057_01.Holds := hd (by
  k_go0
  all_goals try k_fold
  repeat' (first | (k_unfold; (try dsimp only)) | (k_end; refine goodw_no ?_; first | exact far15 (by assumption) (by assumption) | contradiction | omega) | (k_end; refine goodW_bool (by assumption) (by assumption) (raisesW_false ?_) (post_ok _); wrow_none_raised) | (k_end; wrow_close) | walk1 | (dsimp only; walk1) | (leave1; walk_say "STEP leave1"; try dsimp only) | fail "no step"))
end Mine
open PySem PySem.W PyProof.Rows
theorem PySem.Challenge.cw_bj0057_01_holds : PySem.Challenge.rw_bj0057_01.Holds :=
  Mine.whole
