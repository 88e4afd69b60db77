/-
  THE PLAIN MATHEMATICS behind the oracle's sets: no Go, no program. A set is a number below 2^64, process p its bit p-1.
-/
import Derived.Lib.TrailingZeros
namespace Go.Proofs.Qxb6609497aDoor.Pl

/-- The members of s below bit k, each one more than its bit, rising. -/
def mlk (s k : Nat) : List Nat := ((List.range k).filter fun i => s.testBit i).map (· + 1)
/-- The members of s, all 64 bits. -/
def ml (s : Nat) : List Nat := mlk s 64

theorem mlk_zero (s : Nat) : mlk s 0 = [] := rfl

theorem mlk_succ (s k : Nat) : mlk s (k + 1) = mlk s k ++ (if s.testBit k then [k + 1] else []) := by
  unfold mlk
  rw [List.range_succ, List.filter_append, List.map_append]
  congr 1
  by_cases h : s.testBit k <;> simp [h]

theorem mlk_hit (s k : Nat) (h : s.testBit k = true) : mlk s (k + 1) = mlk s k ++ [k + 1] := by rw [mlk_succ, if_pos h]
theorem mlk_miss (s k : Nat) (h : s.testBit k = false) : mlk s (k + 1) = mlk s k := by rw [mlk_succ, if_neg (by simp [h]), List.append_nil]

theorem mlk_prefix (s k : Nat) : ∀ d, mlk s k <+: mlk s (k + d)
  | 0 => List.prefix_refl _
  | d + 1 => (mlk_prefix s k d).trans (by rw [← Nat.add_assoc, mlk_succ]; exact List.prefix_append _ _)

theorem mlk_len (s : Nat) : ∀ k, (mlk s k).length ≤ k
  | 0 => by simp [mlk_zero]
  | k + 1 => by
    have := mlk_len s k
    rw [mlk_succ]; split <;> simp <;> omega

theorem ml_get (s k : Nat) (hk : k < 64) (h : s.testBit k = true) : (ml s)[(mlk s k).length]? = some (k + 1) := by
  have hp := mlk_prefix s (k + 1) (64 - (k + 1))
  rw [show k + 1 + (64 - (k + 1)) = 64 from by omega, mlk_hit s k h] at hp
  obtain ⟨t, ht⟩ := hp
  unfold ml
  rw [← ht]
  simp

theorem mlk_le_ml (s k : Nat) (hk : k ≤ 64) : (mlk s k).length ≤ (ml s).length := by
  have hp := mlk_prefix s k (64 - k)
  rw [show k + (64 - k) = 64 from by omega] at hp
  exact hp.length_le

theorem mlk_lt_ml (s k : Nat) (hk : k < 64) (h : s.testBit k = true) : (mlk s k).length < (ml s).length := by
  have := mlk_le_ml s (k + 1) (by omega)
  rw [mlk_hit s k h] at this
  simp at this
  omega

/-- Two sets with one lowest bit more: the list of the greater one begins with that bit. -/
theorem mlk_step (s s' t : Nat) (h1 : ∀ i, i < t → s.testBit i = false) (h2 : s.testBit t = true) (h3 : ∀ i, s'.testBit i = (s.testBit i && !(i == t))) :
    ∀ k, mlk s k = if t < k then (t + 1) :: mlk s' k else []
  | 0 => by simp [mlk_zero]
  | k + 1 => by
    have ih := mlk_step s s' t h1 h2 h3 k
    rw [mlk_succ, ih, mlk_succ, h3 k]
    by_cases hk : k < t
    · simp [h1 k hk, show ¬ t < k from by omega, show ¬ t < k + 1 from by omega]
    · by_cases he : k = t
      · subst he
        have hz : mlk s' k = [] := by
          have : ∀ j, j ≤ k → mlk s' j = [] := by
            intro j
            induction j with
            | zero => intro _; rfl
            | succ j ihj =>
              intro hj
              rw [mlk_succ, ihj (by omega), h3 j, h1 j (by omega)]
              simp
          exact this k (Nat.le_refl _)
        simp [h2, hz]
      · simp [show t < k from by omega, show t < k + 1 from by omega, he]

theorem odd_form (t m i : Nat) : (2 ^ t * (2 * m + 1)).testBit i = (decide (t ≤ i) && (decide (i = t) || m.testBit (i - t - 1))) := by
  rw [Nat.mul_comm, Nat.testBit_mul_two_pow]
  by_cases h : t ≤ i
  · obtain ⟨d, rfl⟩ : ∃ d, i = t + d := ⟨i - t, by omega⟩
    cases d with
    | zero => simp [Nat.testBit_zero]
    | succ d =>
      have e : t + (d + 1) - t = d + 1 := by omega
      have e2 : d + 1 - 1 = d := by omega
      rw [e, Nat.testBit_succ, e2]
      have e3 : (2 * m + 1) / 2 = m := by omega
      rw [e3]
      simp
  · simp [h]

theorem odd_pred (t m i : Nat) : (2 ^ t * (2 * m + 1) - 1).testBit i = (decide (i < t) || (decide (t < i) && m.testBit (i - t - 1))) := by
  have hp : 0 < 2 ^ t := Nat.two_pow_pos t
  have e : 2 ^ t * (2 * m + 1) - 1 = 2 ^ t * (2 * m) + (2 ^ t - 1) := by rw [Nat.mul_add]; omega
  rw [e, Nat.testBit_two_pow_mul_add _ (by omega)]
  by_cases h : i < t
  · simp [h, Nat.testBit_two_pow_sub_one]
  · obtain ⟨d, rfl⟩ : ∃ d, i = t + d := ⟨i - t, by omega⟩
    cases d with
    | zero => simp [Nat.testBit_zero]
    | succ d =>
      have e : t + (d + 1) - t = d + 1 := by omega
      have e2 : d + 1 - 1 = d := by omega
      have e3 : 2 * m / 2 = m := by omega
      rw [if_neg h, e, Nat.testBit_succ, e2, e3]
      simp
      omega

/-- 's &= s - 1' strikes the lowest member out. -/
theorem ml_step (s : Nat) (h0 : s ≠ 0) (h : s < 18446744073709551616) : ml s = (Lib.ctz 64 s + 1) :: ml (s &&& (s - 1)) ∧ Lib.ctz 64 s < 64 := by
  obtain ⟨m, hm, hk⟩ := Lib.ctzFrom_spec 64 s (by omega) h
  have e : Lib.ctz 64 s = Lib.ctzFrom 64 s := by simp [Lib.ctz, h0]
  rw [e]
  refine ⟨?_, hk⟩
  generalize Lib.ctzFrom 64 s = t at hm hk
  subst hm
  have key := mlk_step (2 ^ t * (2 * m + 1)) (2 ^ t * (2 * m + 1) &&& (2 ^ t * (2 * m + 1) - 1)) t ?_ ?_ ?_ 64
  · rw [if_pos hk] at key
    exact key
  · intro i hi
    rw [odd_form]
    simp
    omega
  · rw [odd_form]; simp
  · intro i
    rw [Nat.testBit_and, odd_form, odd_pred]
    rcases Nat.lt_trichotomy i t with hlt | heq | hgt
    · simp [show ¬ t ≤ i from by omega]
    · subst heq; simp
    · simp [show t ≤ i from by omega, hgt, show ¬ i < t from by omega, show ¬ i = t from by omega]

theorem strike_lt (s : Nat) (h0 : s ≠ 0) : s &&& (s - 1) < s := by
  have := @Nat.and_le_right s (s - 1)
  omega

theorem ml_zero : ml 0 = [] := by
  have : ∀ k, mlk 0 k = [] := by
    intro k
    induction k with
    | zero => rfl
    | succ k ih => rw [mlk_miss 0 k (by simp), ih]
  exact this 64

/-- The live processes among the first k. -/
def lv (c : Nat) : Nat → Nat
  | 0 => 0
  | k + 1 => if c.testBit k then lv c k else lv c k ||| 2 ^ k

/-- The lowest live process among the first k, or 0. -/
def lw (c : Nat) : Nat → Nat
  | 0 => 0
  | k + 1 => if c.testBit k then lw c k else if lw c k = 0 then k + 1 else lw c k

theorem lv_bit (c : Nat) : ∀ k i, (lv c k).testBit i = (decide (i < k) && !c.testBit i)
  | 0, i => by simp [lv]
  | k + 1, i => by
    unfold lv
    by_cases hc : c.testBit k
    · rw [if_pos hc, lv_bit c k i]
      by_cases hi : i = k
      · subst hi; simp [hc]
      · have : decide (i < k) = decide (i < k + 1) := by rw [decide_eq_decide]; omega
        rw [this]
    · rw [if_neg hc, Nat.testBit_or, lv_bit c k i, Nat.testBit_two_pow]
      by_cases hi : i = k
      · subst hi; simp [hc]
      · have : decide (i < k) = decide (i < k + 1) := by rw [decide_eq_decide]; omega
        simp [this, show ¬ k = i from by omega]

theorem lv_lt_two (c : Nat) : ∀ k, lv c k < 2 ^ k
  | 0 => by simp [lv]
  | k + 1 => by
    have ih := lv_lt_two c k
    have hp : 2 ^ k < 2 ^ (k + 1) := Nat.pow_lt_pow_right (by omega) (by omega)
    unfold lv; split
    · omega
    · exact Nat.or_lt_two_pow (by omega) hp

theorem lv_lt (c k : Nat) (hk : k ≤ 64) : lv c k < 18446744073709551616 :=
  Nat.lt_of_lt_of_le (lv_lt_two c k) (Nat.pow_le_pow_right (n := 2) (by omega) hk)

theorem lw_le (c : Nat) : ∀ k, lw c k ≤ k
  | 0 => Nat.le_refl _
  | k + 1 => by
    have := lw_le c k
    unfold lw; split
    · omega
    · split <;> omega

theorem lw_head (c : Nat) (n : Nat) : ∀ k, k ≤ n → (mlk (lv c n) k).headD 0 = lw c k
  | 0, _ => rfl
  | k + 1, hk => by
    have ih := lw_head c n k (by omega)
    rw [mlk_succ, lv_bit, lw]
    by_cases hc : c.testBit k
    · simp [hc]; simpa using ih
    · simp [hc, show k < n from by omega]
      cases hm : mlk (lv c n) k with
      | nil => rw [hm] at ih; simp at ih; simp [← ih]
      | cons a r =>
        rw [hm] at ih
        simp at ih
        have hpos : a ≠ 0 := by
          have : a ∈ mlk (lv c n) k := by rw [hm]; simp
          unfold mlk at this
          obtain ⟨x, _, rfl⟩ := List.mem_map.1 this
          omega
        simp [← ih, hpos]

theorem mlk_past (s n : Nat) (h : ∀ i, n ≤ i → s.testBit i = false) : ∀ d, mlk s (n + d) = mlk s n
  | 0 => rfl
  | d + 1 => by rw [← Nat.add_assoc, mlk_miss _ _ (h _ (by omega)), mlk_past s n h d]

theorem ml_lv (c n : Nat) (hn : n ≤ 64) : ml (lv c n) = mlk (lv c n) n := by
  have := mlk_past (lv c n) n (fun i hi => by rw [lv_bit]; simp; omega) (64 - n)
  rw [show n + (64 - n) = 64 from by omega] at this
  exact this

/-- THE HEAD OF THE LIVE PROCESSES' LIST IS THE LOWEST ONE. -/
theorem ml_head (c n : Nat) (hn : n ≤ 64) : (ml (lv c n)).headD 0 = lw c n := by
  rw [ml_lv c n hn]; exact lw_head c n n (Nat.le_refl _)

theorem ml_ne (c n : Nat) (hn : n ≤ 64) (h : lw c n ≠ 0) : ml (lv c n) ≠ [] := by
  intro e
  have := ml_head c n hn
  rw [e] at this
  exact h this.symm

theorem lv_ne (c n : Nat) (hn : n ≤ 64) (h : lw c n ≠ 0) : lv c n ≠ 0 := by
  intro e
  have := ml_ne c n hn h
  rw [e] at this
  exact this ml_zero

/-- 'upTo(n) &^ crashed'. -/
theorem live_eq (c n : Nat) (hn : n ≤ 64) (hc : c < 18446744073709551616) : (2 ^ n - 1) &&& (18446744073709551615 - c) = lv c n := by
  apply Nat.eq_of_testBit_eq
  intro i
  have e : 18446744073709551615 - c = 2 ^ 64 - (c + 1) := by omega
  rw [Nat.testBit_and, Nat.testBit_two_pow_sub_one, e, Nat.testBit_two_pow_sub_succ hc, lv_bit]
  by_cases h : i < n
  · simp [h]; intro; omega
  · simp [h]

/-- Bit k of c, as the Go text asks it. -/
theorem bit_ask (c k : Nat) : (c / 2 ^ k % 2 = 1) ↔ c.testBit k = true := by
  rw [Nat.testBit_eq_decide_div_mod_eq]; simp

/-- Bit after bit the crashes are those of c. -/
theorem mod_step (c k : Nat) : c % 2 ^ (k + 1) = if c.testBit k then c % 2 ^ k ||| 2 ^ k else c % 2 ^ k := by
  apply Nat.eq_of_testBit_eq
  intro i
  by_cases hc : c.testBit k
  · rw [if_pos hc, Nat.testBit_or, Nat.testBit_mod_two_pow, Nat.testBit_mod_two_pow, Nat.testBit_two_pow]
    by_cases hi : i = k
    · subst hi; simp [hc]
    · have : decide (i < k) = decide (i < k + 1) := by rw [decide_eq_decide]; omega
      simp [this, show ¬ k = i from by omega]
  · rw [if_neg hc, Nat.testBit_mod_two_pow, Nat.testBit_mod_two_pow]
    by_cases hi : i = k
    · subst hi; simp [hc]
    · have : decide (i < k) = decide (i < k + 1) := by rw [decide_eq_decide]; omega
      rw [this]

end Go.Proofs.Qxb6609497aDoor.Pl
