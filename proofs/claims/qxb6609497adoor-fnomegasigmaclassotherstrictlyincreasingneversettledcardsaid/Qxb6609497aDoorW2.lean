import Derived.Test.Qxb6609497aDoorW1
namespace Go.Proofs.Qxb6609497aDoor
open Go.RowKit

theorem bit_val (c k : Nat) (hc : c < 18446744073709551616) : bits BinOp.and IntKind.u64 ((c : Int) / 2 ^ k) 1 = ((c / 2 ^ k % 2 : Nat) : Int) := by
  have e : ((c : Int) / 2 ^ k) = ((c / 2 ^ k : Nat) : Int) := by rw [pow_cast]; simp
  have h : c / 2 ^ k ≤ c := Nat.div_le_self _ _
  have := bits_and_u64_nat (c / 2 ^ k) 1 (by omega) (by omega)
  rw [e]
  rw [nat_mask1] at this
  exact this

theorem bit_one (c k : Nat) (h : c.testBit k = true) : c / 2 ^ k % 2 = 1 := (Pl.bit_ask c k).2 h
theorem bit_nil (c k : Nat) (h : c.testBit k = false) : c / 2 ^ k % 2 = 0 := by
  have h1 := Pl.bit_ask c k
  rw [h] at h1
  have : ¬ c / 2 ^ k % 2 = 1 := fun e => by cases h1.1 e
  omega

theorem bit0_yes (c k : Nat) (hc : c < 18446744073709551616) (h : c.testBit k = false) : (bits BinOp.and IntKind.u64 ((c : Int) / 2 ^ k) 1 == 0) = true := by
  rw [bit_val c k hc, bit_nil c k h]; rfl
theorem bit0_no (c k : Nat) (hc : c < 18446744073709551616) (h : c.testBit k = true) : (bits BinOp.and IntKind.u64 ((c : Int) / 2 ^ k) 1 == 0) = false := by
  rw [bit_val c k hc, bit_one c k h]; rfl
theorem bit1_yes (c k : Nat) (hc : c < 18446744073709551616) (h : c.testBit k = true) : (bits BinOp.and IntKind.u64 ((c : Int) / 2 ^ k) 1 == 1) = true := by
  rw [bit_val c k hc, bit_one c k h]; rfl
theorem bit1_no (c k : Nat) (hc : c < 18446744073709551616) (h : c.testBit k = false) : (bits BinOp.and IntKind.u64 ((c : Int) / 2 ^ k) 1 == 1) = false := by
  rw [bit_val c k hc, bit_nil c k h]; rfl

theorem or_val (a k : Nat) (ha : a < 18446744073709551616) (hk : k < 64) : bits BinOp.or IntKind.u64 (a : Int) (IntKind.u64.wrap (2 ^ k)) = ((a ||| 2 ^ k : Nat) : Int) := by
  have h : 2 ^ k < 2 ^ 64 := Nat.pow_lt_pow_right (by omega) hk
  rw [wrap_pow k hk, bits_or_u64_nat _ _ ha (by omega)]

theorem lv_hit (c k : Nat) (h : c.testBit k = false) : Pl.lv c (k + 1) = Pl.lv c k ||| 2 ^ k := by rw [Pl.lv, if_neg (by simp [h])]
theorem lv_miss (c k : Nat) (h : c.testBit k = true) : Pl.lv c (k + 1) = Pl.lv c k := by rw [Pl.lv, if_pos h]
theorem lw_hit0 (c k : Nat) (h : c.testBit k = false) (h0 : Pl.lw c k = 0) : Pl.lw c (k + 1) = k + 1 := by rw [Pl.lw, if_neg (by simp [h]), if_pos h0]
theorem lw_hit1 (c k : Nat) (h : c.testBit k = false) (h0 : ¬ Pl.lw c k = 0) : Pl.lw c (k + 1) = Pl.lw c k := by rw [Pl.lw, if_neg (by simp [h]), if_neg h0]
theorem lw_miss (c k : Nat) (h : c.testBit k = true) : Pl.lw c (k + 1) = Pl.lw c k := by rw [Pl.lw, if_pos h]

set_option maxHeartbeats 400000 in
theorem b1Live_any (n c : Nat) (hn : n ≤ 64) (hc : Hid (c < 18446744073709551616)) (w : World) :
    Calls Tryd.prog 7 #[.int .i64 n, .int .u64 c] w fun e w' => e = .returned (.tuple #[.int .u64 (Pl.lv c n), .int .i64 (Pl.lw c n)]) ∧ w' = w := by
  go_enter Tryd.func7, Tryd.ntmps7
  go_wp2
  go_loop [6, 7, 8] (fun l o p => ∃ k : Nat, k ≤ n ∧ p = .int .i64 ((k : Int) + 1) ∧ l = .int .u64 (Pl.lv c k) ∧ o = .int .i64 (Pl.lw c k)) (fun _ _ p => n + 1 - (intOf p).toNat)
  case atStart => exact ⟨0, by omega, rfl, rfl, rfl⟩
  case round =>
    obtain ⟨k, hk, rfl, rfl, rfl⟩ := hrel
    by_cases hlt : k < n
    · have HV : Hid (Pl.lv c k < 18446744073709551616) := Pl.lv_lt c k (by omega)
      by_cases hb : c.testBit k = true
      · have ht := bit0_no c k hc.out hb
        have HB : Hid (c.testBit k = true) := hb
        clear hb
        go_wp2
        go_round
        case rel => exact ⟨k + 1, by omega, by go_num, by rw [lv_miss c k HB.out], by rw [lw_miss c k HB.out]⟩
        case measure => simp [intOf]; omega
      · have hb' : c.testBit k = false := by simpa using hb
        have ht := bit0_yes c k hc.out hb'
        have HB : Hid (c.testBit k = false) := hb'
        clear hb hb'
        by_cases h0 : Pl.lw c k = 0
        · have h0' : ((Pl.lw c k : Int) == 0) = true := by rw [beq_iff_eq]; omega
          have H0 : Hid (Pl.lw c k = 0) := h0
          clear h0
          go_wp2
          go_round
          case rel => exact ⟨k + 1, by omega, by go_num, by rw [lv_hit c k HB.out, or_val _ _ HV.out (by omega)], by rw [lw_hit0 c k HB.out H0.out]; go_num⟩
          case measure => simp [intOf]; omega
        · have h0' : ((Pl.lw c k : Int) == 0) = false := by rw [beq_eq_false_iff_ne]; omega
          have H0 : Hid (¬ Pl.lw c k = 0) := h0
          clear h0
          go_wp2
          go_round
          case rel => exact ⟨k + 1, by omega, by go_num, by rw [lv_hit c k HB.out, or_val _ _ HV.out (by omega)], by rw [lw_hit1 c k HB.out H0.out]⟩
          case measure => simp [intOf]; omega
    · go_wp2
      go_ret2
      have e : k = n := by omega
      subst e
      exact ⟨rfl, rfl⟩

set_option maxHeartbeats 1000000 in
/-- The list that 'members' gives, held against its set: yes. -/
theorem same_any (s : Nat) (hs : Hid (s < 18446744073709551616)) (v : Value) (base : Nat) (w : World) (hown : Hid (w.ownsRow base 3 1 v (Pl.ml s).length (cells (Pl.ml s)))) (hne : Pl.ml s ≠ []) :
    Calls Tryd.prog 11 #[v, .int .u64 s] w fun e w' => e = .returned (.bool true) ∧ w' = w := by
  obtain ⟨g, cap, rfl⟩ : ∃ g cap, v = .slice (some ⟨g, 0, none⟩) (Pl.ml s).length cap := by
    rcases hown.out.2 with ⟨_, h⟩ | ⟨g, cap, _, h, _⟩
    · exact absurd (List.eq_nil_of_length_eq_zero h) hne
    · exact ⟨g, cap, h⟩
  have hcells : ∀ (j p : Nat), (Pl.ml s)[j]? = some p → w.cell? ⟨g, j, none⟩ = some (.int .i64 p) := by
    intro j p hp
    have := hown.out.cells (g := g) rfl j (.int .i64 p) (by simp [cells, hp])
    rwa [Addr.add_lit, Nat.zero_add] at this
  clear hown hne
  have HC : Hid (∀ (j p : Nat), (Pl.ml s)[j]? = some p → w.cell? ⟨g, j, none⟩ = some (.int .i64 p)) := hcells
  clear hcells
  have hL : (Pl.ml s).length ≤ 64 := Pl.mlk_len s 64
  go_enter Tryd.func11, Tryd.ntmps11
  go_wp2
  go_loop [5, 6] (fun j p => ∃ k : Nat, k ≤ 64 ∧ p = .int .i64 ((k : Int) + 1) ∧ j = .int .i64 ((Pl.mlk s k).length : Nat)) (fun _ p => 65 - (intOf p).toNat)
  case atStart => exact ⟨0, by omega, rfl, rfl⟩
  case round =>
    obtain ⟨k, hk, rfl, rfl⟩ := hrel
    by_cases hlt : k < 64
    · by_cases hb : s.testBit k = true
      · have ht := bit1_yes s k hs.out hb
        have hcell := HC.out _ _ (Pl.ml_get s k hlt hb)
        have hjl := Pl.mlk_lt_ml s k hlt hb
        have HB : Hid (s.testBit k = true) := hb
        clear hb
        go_wp2
        go_round
        case rel => exact ⟨k + 1, by omega, by go_num, by rw [Pl.mlk_hit s k HB.out]; simp⟩
        case measure => simp [intOf]; omega
      · have hb' : s.testBit k = false := by simpa using hb
        have ht := bit1_no s k hs.out hb'
        have HB : Hid (s.testBit k = false) := hb'
        clear hb hb'
        go_wp2
        go_round
        case rel => exact ⟨k + 1, by omega, by go_num, by rw [Pl.mlk_miss s k HB.out]⟩
        case measure => simp [intOf]; omega
    · have e : k = 64 := by omega
      subst e
      go_wp2
      go_ret
      exact ⟨ret_bool (by simp [Pl.ml]), rfl⟩
