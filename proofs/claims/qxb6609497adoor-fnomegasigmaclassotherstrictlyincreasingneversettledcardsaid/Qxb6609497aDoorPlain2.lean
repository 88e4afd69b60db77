/-
  THE PLAIN MATHEMATICS behind 'other': the list of quorums, the pairs by number, the settled pair struck out. No Go, no program.
-/
import Derived.Test.Qxb6609497aDoorPlain
namespace Go.Proofs.Qxb6609497aDoor.Pl

/-- Of the numbers 1 to k those that meet m, rising. -/
def qk (m : Nat) : Nat → List Nat
  | 0 => []
  | k + 1 => if (k + 1) &&& m = 0 then qk m k else qk m k ++ [k + 1]

theorem qk_hit (m k : Nat) (h : ¬ (k + 1) &&& m = 0) : qk m (k + 1) = qk m k ++ [k + 1] := by rw [qk, if_neg h]
theorem qk_miss (m k : Nat) (h : (k + 1) &&& m = 0) : qk m (k + 1) = qk m k := by rw [qk, if_pos h]

theorem qk_len (m : Nat) : ∀ k, (qk m k).length ≤ k
  | 0 => Nat.le_refl _
  | k + 1 => by
    have := qk_len m k
    unfold qk; split
    · omega
    · simp; omega

theorem qk_pre (m k : Nat) : ∀ d, ∃ t, qk m (k + d) = qk m k ++ t
  | 0 => ⟨[], by simp⟩
  | d + 1 => by
    obtain ⟨t, ht⟩ := qk_pre m k d
    by_cases h : (k + d + 1) &&& m = 0
    · exact ⟨t, by rw [← Nat.add_assoc, qk_miss m (k + d) h, ht]⟩
    · exact ⟨t ++ [k + d + 1], by rw [← Nat.add_assoc, qk_hit m (k + d) h, ht, List.append_assoc]⟩

theorem qk_mono (m j k : Nat) (h : j ≤ k) : (qk m j).length ≤ (qk m k).length := by
  obtain ⟨t, ht⟩ := qk_pre m j (k - j)
  rw [show j + (k - j) = k from by omega] at ht
  rw [ht]; simp

/-- The place of a number that meets m. -/
theorem qk_at (m j f : Nat) (hj : j < f) (h : ¬ (j + 1) &&& m = 0) : (qk m f)[(qk m j).length]? = some (j + 1) := by
  obtain ⟨t, ht⟩ := qk_pre m (j + 1) (f - (j + 1))
  rw [show j + 1 + (f - (j + 1)) = f from by omega, qk_hit m j h] at ht
  rw [ht]; simp

theorem qk_lt (m j f : Nat) (hj : j < f) (h : ¬ (j + 1) &&& m = 0) : (qk m j).length < (qk m f).length := by
  have := qk_mono m (j + 1) f (by omega)
  rw [qk_hit m j h] at this
  simp at this
  omega

/-- Each member, by its place. -/
theorem qk_mem (m : Nat) : ∀ f x q, (qk m f)[x]? = some q → ∃ j, q = j + 1 ∧ j < f ∧ ¬ (j + 1) &&& m = 0 ∧ x = (qk m j).length
  | 0, x, q, h => by simp [qk] at h
  | f + 1, x, q, h => by
    by_cases hm : (f + 1) &&& m = 0
    · rw [qk_miss m f hm] at h
      obtain ⟨j, e, hj, h1, h2⟩ := qk_mem m f x q h
      exact ⟨j, e, by omega, h1, h2⟩
    · rw [qk_hit m f hm] at h
      by_cases hx : x < (qk m f).length
      · rw [List.getElem?_append_left hx] at h
        obtain ⟨j, e, hj, h1, h2⟩ := qk_mem m f x q h
        exact ⟨j, e, by omega, h1, h2⟩
      · rw [List.getElem?_append_right (by omega)] at h
        have hx2 : x - (qk m f).length = 0 := by
          have := (List.getElem?_eq_some_iff.1 h).1
          simp at this
          omega
        rw [hx2] at h
        simp at h
        exact ⟨f, h.symm, by omega, hm, by omega⟩

theorem qk_get (m f x : Nat) (hx : x < (qk m f).length) : ∃ j, (qk m f)[x]? = some (j + 1) ∧ j < f ∧ ¬ (j + 1) &&& m = 0 ∧ x = (qk m j).length := by
  obtain ⟨j, e, hj, h1, h2⟩ := qk_mem m f x _ (List.getElem?_eq_getElem hx)
  exact ⟨j, by rw [List.getElem?_eq_getElem hx, e], hj, h1, h2⟩

/-- The members rise. -/
theorem qk_rise (m f x y p q : Nat) (hp : (qk m f)[x]? = some p) (hq : (qk m f)[y]? = some q) (h : x < y) : p < q := by
  obtain ⟨j, rfl, hj, h1, rfl⟩ := qk_mem m f x p hp
  obtain ⟨k, rfl, hk, h3, rfl⟩ := qk_mem m f y q hq
  apply Nat.lt_of_not_le
  intro hle
  have := qk_mono m k j (by omega)
  omega

/-- The one place: two indices of one number are one. -/
theorem qk_one (m f j k : Nat) (hj : j < f) (hk : k < f) (h1 : ¬ (j + 1) &&& m = 0) (h2 : ¬ (k + 1) &&& m = 0) (h : (qk m j).length = (qk m k).length) : j = k := by
  have a := qk_at m j f hj h1
  have b := qk_at m k f hk h2
  rw [h, b] at a
  simp at a
  omega

/-! THE PAIRS BY NUMBER: pair r is (1 + r / K, the (r % K)-th quorum). -/

/-- With pair S struck out: the number of the i-th that is left. -/
def skip (S i : Nat) : Nat := if S ≤ i then i + 1 else i
/-- How many are left below r. -/
def left (S r : Nat) : Nat := if S < r then r - 1 else r

theorem left_le (S r : Nat) : left S r ≤ r := by unfold left; split <;> omega
theorem left_step (S r : Nat) (h : r ≠ S) : left S (r + 1) = left S r + 1 := by unfold left; split <;> split <;> omega
theorem left_same (S : Nat) : left S (S + 1) = left S S := by unfold left; simp
theorem skip_left (S r i : Nat) (h : r ≠ S) (hi : left S r = i) : skip S i = r := by unfold skip; unfold left at hi; split at hi <;> split <;> omega
theorem skip_ne (S i : Nat) : skip S i ≠ S := by unfold skip; split <;> omega
theorem skip_lt (S i : Nat) : skip S i < skip S (i + 1) := by unfold skip; split <;> split <;> omega
theorem skip_le (S i : Nat) : skip S i ≤ i + 1 := by unfold skip; split <;> omega

theorem pair_div (a x K : Nat) (hx : x < K) : (a * K + x) / K = a ∧ (a * K + x) % K = x := by
  have hK : 0 < K := by omega
  constructor
  · rw [Nat.mul_comm, Nat.mul_add_div hK, Nat.div_eq_of_lt hx]; omega
  · rw [Nat.mul_comm, Nat.mul_add_mod, Nat.mod_eq_of_lt hx]

theorem pair_inj (a x b y K : Nat) (hx : x < K) (hy : y < K) (h : a * K + x = b * K + y) : a = b ∧ x = y := by
  have h1 := pair_div a x K hx
  have h2 := pair_div b y K hy
  rw [h] at h1
  exact ⟨h1.1.symm.trans h2.1, h1.2.symm.trans h2.2⟩

/-! THE LIVE SET AMONG THE QUORUMS. -/
theorem lv_le (c n : Nat) : lv c n ≤ 2 ^ n - 1 := by
  have := lv_lt_two c n
  omega

theorem and_self_ne (m : Nat) (h : m ≠ 0) : ¬ m &&& m = 0 := by rw [Nat.and_self]; exact h

/-- The live set is the number (lv - 1) + 1, below 2 ^ n - 1, and meets itself. -/
theorem live_in (c n : Nat) (hn : n ≤ 64) (h : lw c n ≠ 0) : lv c n - 1 < 2 ^ n - 1 ∧ lv c n - 1 + 1 = lv c n ∧ ¬ (lv c n - 1 + 1) &&& lv c n = 0 := by
  have h0 := lv_ne c n hn h
  have h1 := lv_le c n
  have e : lv c n - 1 + 1 = lv c n := by omega
  refine ⟨by omega, e, ?_⟩
  rw [e]; exact and_self_ne _ h0

theorem qk_live_ne (c n : Nat) (hn : n ≤ 64) (h : lw c n ≠ 0) : qk (lv c n) (2 ^ n - 1) ≠ [] := by
  obtain ⟨h1, h2, h3⟩ := live_in c n hn h
  intro e
  have := qk_lt (lv c n) (lv c n - 1) (2 ^ n - 1) h1 h3
  rw [e] at this
  simp at this

/-- 2 ^ n is at most 4096 where n is at most 12. -/
theorem pow_le (n : Nat) (hn : n ≤ 12) : 2 ^ n ≤ 4096 := Nat.pow_le_pow_right (n := 2) (by omega) hn

end Go.Proofs.Qxb6609497aDoor.Pl
