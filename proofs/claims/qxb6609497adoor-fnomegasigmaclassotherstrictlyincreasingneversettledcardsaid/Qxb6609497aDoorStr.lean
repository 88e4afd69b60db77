/-
  THE WALK of FnOmegaSigmaClassOtherStrictlyIncreasingNeverSettled: b1Mask first.
-/
import Derived.Test.Qxb6609497aDoorIth
namespace Go.Proofs.Qxb6609497aDoor
open Go.RowKit

namespace Pl
theorem mlk_mono (s j k : Nat) (h : j ≤ k) : (mlk s j).length ≤ (mlk s k).length := by
  have hp := mlk_prefix s j (k - j)
  rw [show j + (k - j) = k from by omega] at hp
  exact hp.length_le

theorem mod_gap (s p : Nat) : ∀ d, (mlk s p).length = (mlk s (p + d)).length → s % 2 ^ (p + d) = s % 2 ^ p
  | 0, _ => rfl
  | d + 1, h => by
    have h1 := mlk_mono s p (p + d) (by omega)
    have h2 := mlk_mono s (p + d) (p + d + 1) (by omega)
    rw [← Nat.add_assoc] at h ⊢
    have hb : s.testBit (p + d) = false := by
      cases hb : s.testBit (p + d)
      · rfl
      · rw [mlk_hit s (p + d) hb] at h; simp at h; omega
    rw [mod_step, if_neg (by simp [hb])]
    exact mod_gap s p d (by omega)

theorem mlk_mem (s : Nat) : ∀ f x q, (mlk s f)[x]? = some q → ∃ t, q = t + 1 ∧ t < f ∧ s.testBit t = true ∧ x = (mlk s t).length
  | 0, x, q, h => by simp [mlk_zero] at h
  | f + 1, x, q, h => by
    by_cases hb : s.testBit f = true
    · rw [mlk_hit s f hb] at h
      by_cases hx : x < (mlk s f).length
      · rw [List.getElem?_append_left hx] at h
        obtain ⟨t, e, ht, h1, h2⟩ := mlk_mem s f x q h
        exact ⟨t, e, by omega, h1, h2⟩
      · rw [List.getElem?_append_right (by omega)] at h
        have hx2 : x - (mlk s f).length = 0 := by
          have := (List.getElem?_eq_some_iff.1 h).1
          simp at this
          omega
        rw [hx2] at h
        simp at h
        exact ⟨f, h.symm, by omega, hb, by omega⟩
    · rw [mlk_miss s f (by simpa using hb)] at h
      obtain ⟨t, e, ht, h1, h2⟩ := mlk_mem s f x q h
      exact ⟨t, e, by omega, h1, h2⟩

/-- The next member behind bit p. -/
theorem ml_next (s p : Nat) (hlt : (mlk s p).length < (ml s).length) : ∃ t, t < 64 ∧ (ml s)[(mlk s p).length]? = some (t + 1) ∧ p ≤ t ∧ s.testBit t = true ∧ s % 2 ^ (t + 1) = s % 2 ^ p ||| 2 ^ t ∧ (mlk s (t + 1)).length = (mlk s p).length + 1 := by
  obtain ⟨t, e, ht, hb, hx⟩ := mlk_mem s 64 _ _ (List.getElem?_eq_getElem hlt)
  have hpt : p ≤ t := by
    apply Nat.le_of_not_lt
    intro h
    have h1 := mlk_mono s (t + 1) p (by omega)
    rw [mlk_hit s t hb] at h1
    simp at h1
    omega
  have hg := mod_gap s p (t - p) (by rw [show p + (t - p) = t from by omega]; exact hx)
  rw [show p + (t - p) = t from by omega] at hg
  refine ⟨t, ht, ?_, hpt, hb, ?_, ?_⟩
  · have e1 : (ml s)[(mlk s p).length]? = some ((ml s)[(mlk s p).length]) := List.getElem?_eq_getElem hlt
    rw [e1]
    exact congrArg some e
  · rw [mod_step, if_pos hb, hg]
  · rw [mlk_hit s t hb]; simp; omega

theorem ml_done (s p : Nat) (hp : p ≤ 64) (hs : s < 18446744073709551616) (h : (mlk s p).length = (ml s).length) : s % 2 ^ p = s := by
  have hg := mod_gap s p (64 - p) (by rw [show p + (64 - p) = 64 from by omega]; exact h)
  rw [show p + (64 - p) = 64 from by omega] at hg
  rw [← hg]; exact Nat.mod_eq_of_lt hs

theorem bit_lt (s n t : Nat) (hs : s < 2 ^ n) (hb : s.testBit t = true) : t < n := by
  apply Nat.lt_of_not_le
  intro h
  have := Nat.testBit_lt_two_pow (x := s) (i := t) (Nat.lt_of_lt_of_le hs (Nat.pow_le_pow_right (by omega) h))
  rw [this] at hb
  cases hb
end Pl

set_option maxHeartbeats 1000000 in
theorem mask_any (s n g cap C : Nat) (hn : n ≤ 64) (hs : Hid (s < 2 ^ n)) (hne : Hid (Pl.ml s ≠ [])) (w : World) (hown : Hid (w.ownsRow C 3 1 (.slice (some ⟨g, 0, none⟩) (Pl.ml s).length cap) (Pl.ml s).length (cells (Pl.ml s)))) :
    Calls Tryd.prog 12 #[.slice (some ⟨g, 0, none⟩) (Pl.ml s).length cap, .int .i64 n] w fun e w' => e = .returned (.tuple #[.int .u64 s, .bool true]) ∧ w = w' := by
  have HC : Hid (∀ (j p : Nat), (Pl.ml s)[j]? = some p → w.cell? ⟨g, j, none⟩ = some (.int .i64 p)) := by
    intro j p hp
    have := hown.out.cells (g := g) rfl j (.int .i64 p) (by simp [cells, hp])
    rwa [Addr.add_lit, Nat.zero_add] at this
  have hL : (Pl.ml s).length ≤ 64 := Pl.mlk_len s 64
  have hL0 : 0 < (Pl.ml s).length := List.length_pos_iff.2 hne.out
  have HS : Hid (s < 18446744073709551616) := by
    have : 2 ^ n ≤ 2 ^ 64 := Nat.pow_le_pow_right (by omega) hn
    have := hs.out
    show s < 18446744073709551616
    omega
  clear hown hne
  go_enter Tryd.func12, Tryd.ntmps12
  go_wp2
  go_loop [6, 7, 8] (fun m pv j => ∃ p y : Nat, p ≤ 64 ∧ Hid (y = s % 2 ^ p) ∧ m = .int .u64 y ∧ pv = .int .i64 p ∧ j = .int .i64 ((Pl.mlk s p).length : Nat)) (fun _ _ j => (Pl.ml s).length - (intOf j).toNat)
  case atStart => exact ⟨0, 0, by omega, by rw [Nat.pow_zero, Nat.mod_one]; rfl, rfl, rfl, rfl⟩
  case round =>
    obtain ⟨p, y, hp, HY, rfl, rfl, rfl⟩ := hrel
    by_cases hlt : (Pl.mlk s p).length < (Pl.ml s).length
    · obtain ⟨t, ht, hget, hpt, hb, hmod, hlen⟩ := Pl.ml_next s p hlt
      have hcell : w.cell? ⟨g, (Pl.mlk s p).length, none⟩ = some (.int .i64 ((t : Int) + 1)) := HC.out _ _ hget
      have htn : t < n := Pl.bit_lt s n t hs.out hb
      have HM : Hid (s % 2 ^ (t + 1) = s % 2 ^ p ||| 2 ^ t) := hmod
      have HLen : Hid ((Pl.mlk s (t + 1)).length = (Pl.mlk s p).length + 1) := hlen
      have HP : Hid (y < 18446744073709551616) := by rw [HY.out]; exact mod_lt64' s p HS.out
      clear hget hb hmod hlen
      go_wp2
      go_round
      case rel => exact ⟨t + 1, y ||| 2 ^ t, by omega, by rw [HM.out, HY.out]; rfl, by rw [or_val _ _ HP.out (by omega)], by go_num, by rw [HLen.out]; go_num⟩
      case measure => simp [intOf]; omega
    · have hle := Pl.mlk_le_ml s p hp
      have e : s % 2 ^ p = s := Pl.ml_done s p hp HS.out (by omega)
      have HE : Hid (s % 2 ^ p = s) := e
      clear e
      go_wp2
      go_ret2
      refine ⟨?_, rfl⟩
      have hy : y = s := HY.out.trans HE.out
      subst hy
      simp

/-- Pair r with its quorum q is not the settled one. -/
theorem never_settled (c n r q : Nat) (hn : n ≤ 64) (hl : Pl.lw c n ≠ 0) (hr : r ≠ SN c n) (hq : (QL c n)[r % (QL c n).length]? = some q) : ¬ (1 + r / (QL c n).length = Pl.lw c n ∧ q = Pl.lv c n) := by
  rintro ⟨h1, rfl⟩
  apply hr
  have hA := LA_at c n hn hl
  have e : r % (QL c n).length = LA c n := by
    rcases Nat.lt_trichotomy (r % (QL c n).length) (LA c n) with h | h | h
    · have := Pl.qk_rise _ _ _ _ _ _ hq hA h; omega
    · exact h
    · have := Pl.qk_rise _ _ _ _ _ _ hA hq h; omega
  unfold SN
  rw [← e, show Pl.lw c n - 1 = r / (QL c n).length from by omega, Nat.mul_comm]
  exact (Nat.div_add_mod r (QL c n).length).symm

theorem pair_order (c n r1 r2 q1 q2 : Nat) (h : r1 < r2) (hq1 : (QL c n)[r1 % (QL c n).length]? = some q1) (hq2 : (QL c n)[r2 % (QL c n).length]? = some q2) :
    1 + r1 / (QL c n).length < 1 + r2 / (QL c n).length ∨ (1 + r1 / (QL c n).length = 1 + r2 / (QL c n).length ∧ q1 < q2) := by
  have hd := Nat.div_le_div_right (c := (QL c n).length) (Nat.le_of_lt h)
  rcases Nat.lt_or_ge (r1 / (QL c n).length) (r2 / (QL c n).length) with h1 | h1
  · exact .inl (by omega)
  · have e : r1 / (QL c n).length = r2 / (QL c n).length := by omega
    refine .inr ⟨by omega, ?_⟩
    have m1 := Nat.div_add_mod r1 (QL c n).length
    have m2 := Nat.div_add_mod r2 (QL c n).length
    rw [e] at m1
    exact Pl.qk_rise _ _ _ _ _ _ hq1 hq2 (by omega)

theorem and0_no (q m : Nat) (hq : q < 18446744073709551616) (hm : m < 18446744073709551616) (h : ¬ q &&& m = 0) : (bits BinOp.and IntKind.u64 (q : Int) (m : Int) == 0) = false := by
  rw [bits_and_u64_nat q m hq hm, beq_eq_false_iff_ne]; omega

theorem zzOther_int (ii : Int) (B n c C i : Nat) (hii : ii = (i : Int)) (hn : n ≤ 12) (hc : Hid (c < 18446744073709551616)) (hlw : Hid (Pl.lw c n ≠ 0)) (hi : i ≤ 60000) (w : World) (al pr : Value) (hC : C ≤ w.heap.size) (hBC : B < C) (hB0 : 0 < B) (hT : Hid (TabAt w)) (h : Hid (Osc B n c C al pr w)) (q ld : Nat)
    (hq : Hid ((QL c n)[Pl.skip (SN c n) i % (QL c n).length]? = some q)) (hld : Hid (ld = 1 + Pl.skip (SN c n) i / (QL c n).length)) :
    Calls Tryd.prog 10 #[.pointer (some ⟨B, 0, none⟩), .int .i64 ii] w fun e w' => ∃ g cap al' pr', e = .returned (.agg #[.int .i64 (ld : Int), .slice (some ⟨g, 0, none⟩) (Pl.ml q).length cap]) ∧
      w'.ownsRow w.heap.size 3 1 (.slice (some ⟨g, 0, none⟩) (Pl.ml q).length cap) (Pl.ml q).length (cells (Pl.ml q)) ∧ Osc B n c C al' pr' w' ∧ w.grownBy w' (some B) := by
  subst hii
  rw [hld.out]
  exact zzOther_any B n c C i hn hc hlw hi w al pr hC hBC hB0 hT h q hq

set_option maxHeartbeats 4000000 in
set_option maxRecDepth 100000 in
theorem str_mid (n c i : Nat) (hn1 : 1 ≤ n) (hn : n ≤ 12) (hc : Hid (c < 18446744073709551616)) (w : World) (hg : 0 < w.heap.size) (hT : Hid (TabAt w)) (HL : Hid (Pl.lw c n ≠ 0)) (hi0 : i ≤ n * 2 ^ n) :
    Calls Tryd.prog 4 #[.int .i64 n, .int .u64 c, .int .i64 i] w fun e w' => e = .returned (.bool true) ∧ Below w.heap.size w w' := by
  have h0 : ((Pl.lw c n : Int) == 0) = false := by have := HL.out; rw [beq_eq_false_iff_ne]; omega
  obtain ⟨hsh, hM⟩ := sh_val n hn
  obtain ⟨M, hMe⟩ : ∃ M, M = n * 2 ^ n := ⟨_, rfl⟩
  rw [← hMe] at hsh hM hi0
  obtain ⟨F, hFe⟩ : ∃ F, F = 2 ^ n - 1 := ⟨_, rfl⟩
  have hfull := upTo_val n (by omega)
  rw [← hFe] at hfull
  have hF : F ≤ 4095 := by have := Pl.pow_le n hn; omega
  have HF : Hid (F = 2 ^ n - 1) := hFe
  clear hMe hFe
  go_enter Tryd.func4, Tryd.ntmps4
  go_wp2_with (go_at_call 7; refine (live_two n c (by omega) hc _).mono ?_; rintro e w2 ⟨rfl, rfl⟩)
  clear hsh hfull h0
  go_loop [10, 11] (fun kq t11 => ∃ j : Nat, j ≤ F ∧ kq = .int .i64 ((Pl.qk (Pl.lv c n) j).length : Nat) ∧ t11 = .int .u64 ((j : Int) + 1)) (fun _ t11 => F + 2 - (intOf t11).toNat)
  case atStart => exact ⟨0, by omega, rfl, rfl⟩
  case round =>
    obtain ⟨j, hj, rfl, rfl⟩ := hrel
    have hjl := Pl.qk_len (Pl.lv c n) j
    by_cases hjlt : j < F
    · by_cases hm : (j + 1) &&& Pl.lv c n = 0
      · have ht := meet_no j (Pl.lv c n) (by omega) (Pl.lv_lt c n (by omega)) hm
        have HM : Hid ((j + 1) &&& Pl.lv c n = 0) := hm
        clear hm
        go_wp2
        go_round
        case rel => exact ⟨j + 1, by omega, by rw [Pl.qk_miss _ _ HM.out], by go_num⟩
        case measure => simp [intOf]; omega
      · have ht := meet_yes j (Pl.lv c n) (by omega) (Pl.lv_lt c n (by omega)) hm
        have HM : Hid (¬ (j + 1) &&& Pl.lv c n = 0) := hm
        clear hm
        go_wp2
        go_round
        case rel => exact ⟨j + 1, by omega, by rw [Pl.qk_hit _ _ HM.out]; simp, by go_num⟩
        case measure => simp [intOf]; omega
    · have e : (Pl.qk (Pl.lv c n) j).length = (QL c n).length := by unfold QL; rw [← HF.out, show j = F from by omega]
      rw [e]
      have hK := QL_len c n hn
      obtain ⟨P, hP⟩ : ∃ P, P = n * (QL c n).length := ⟨_, rfl⟩
      have hPb : P ≤ 49140 := by rw [hP]; exact Nat.mul_le_mul hn hK
      have hmul : (n : Int) * ((QL c n).length : Int) = (P : Int) := by rw [hP, Int.natCast_mul]
      have HP : Hid (P = n * (QL c n).length) := hP
      clear hP e hjl
      by_cases hbig : P < i + 3
      · have hbig' : (P : Int) - 3 < (i : Int) := by omega
        go_wp2
        go_ret
        exact ⟨rfl, Below.refl _ _⟩
      · have hbig' : (i : Int) ≤ (P : Int) - 3 := by omega
        go_wp2_with (go_at_call 8; refine (newOsc_any n _).mono ?_; rintro e w2 ⟨rfl, rfl⟩)
        clear hmul
        have hR : ORel w w.heap.size n c 0 (w.alloc (.cells (oscC n 0 (.slice none 0 0) (.pointer none)) 50)) :=
          ⟨by rw [Nat.pow_zero, Nat.mod_one]; exact blk_new _ _ _, (Below.refl _ _).alloc (Nat.le_refl _) _⟩
        go_loopw [13] (fun p wr => ∃ k : Nat, k ≤ 64 ∧ p = .int .i64 ((k : Int) + 1) ∧ ORel w w.heap.size n c k wr) (fun p _ => 65 - (intOf p).toNat)
        case atStart => exact ⟨0, by omega, rfl, hR⟩
        case round =>
          obtain ⟨k', hk', rfl, hC⟩ := hrel
          clear hR
          by_cases hlt' : k' < 64
          · by_cases hb : c.testBit k' = true
            · have ht := bit1_yes c k' hc.out hb
              have HB : Hid (c.testBit k' = true) := hb
              clear hb
              have HM : Hid (c % 2 ^ k' < 18446744073709551616) := mod_lt64' c k' hc.out
              have HBk : Hid (Blk wr w.heap.size (oscC n (c % 2 ^ k') (.slice none 0 0) (.pointer none)) 50) := hC.1
              go_wp2_with (go_at_call 9; refine (oscCrash_any _ n _ k' hlt' HM _ _ _ HBk).mono ?_; rintro e w3 ⟨rfl, hx, hgr⟩)
              go_roundw
              case rel => exact ⟨k' + 1, by omega, by go_num, hC.hit (Nat.le_refl _) HB.out hx hgr⟩
              case measure => simp [intOf]; omega
            · have hb' : c.testBit k' = false := by simpa using hb
              have ht := bit1_no c k' hc.out hb'
              have HB : Hid (c.testBit k' = false) := hb'
              clear hb hb'
              go_wp2
              go_roundw
              case rel => exact ⟨k' + 1, by omega, by go_num, hC.miss HB.out⟩
              case measure => simp [intOf]; omega
          · have e : k' = 64 := by omega
            subst e
            obtain ⟨hblk, hbel⟩ := hC
            rw [mod_all' c hc.out] at hblk
            have HO : Hid (Osc w.heap.size n c (w.heap.size + 1) (.slice none 0 0) (.pointer none) wr) := ⟨hblk, .inl rfl, .inl rfl⟩
            have hlt2 : w.heap.size < wr.heap.size := hblk.lt
            have HT : Hid (TabAt wr) := hT.out.below hg hbel
            have HBl : Hid (Below w.heap.size w wr) := hbel
            clear hblk hbel
            -- the two pairs
            have hKp : 0 < (QL c n).length := Nat.lt_of_le_of_lt (Nat.zero_le _) (LA_lt c n (by omega) HL.out)
            obtain ⟨q1, hq1⟩ : ∃ q, (QL c n)[Pl.skip (SN c n) i % (QL c n).length]? = some q := ⟨_, List.getElem?_eq_getElem (Nat.mod_lt _ hKp)⟩
            obtain ⟨q2, hq2⟩ : ∃ q, (QL c n)[Pl.skip (SN c n) (i + 1) % (QL c n).length]? = some q := ⟨_, List.getElem?_eq_getElem (Nat.mod_lt _ hKp)⟩
            obtain ⟨la, hla⟩ : ∃ la, la = 1 + Pl.skip (SN c n) i / (QL c n).length := ⟨_, rfl⟩
            obtain ⟨lb, hlb⟩ : ∃ lb, lb = 1 + Pl.skip (SN c n) (i + 1) / (QL c n).length := ⟨_, rfl⟩
            have hs1 := Pl.skip_le (SN c n) i
            have hs2 := Pl.skip_le (SN c n) (i + 1)
            have hla2 : la ≤ n := by
              have : Pl.skip (SN c n) i / (QL c n).length < n := Nat.div_lt_of_lt_mul (by rw [Nat.mul_comm, ← HP.out]; omega)
              omega
            have hlb2 : lb ≤ n := by
              have : Pl.skip (SN c n) (i + 1) / (QL c n).length < n := Nat.div_lt_of_lt_mul (by rw [Nat.mul_comm, ← HP.out]; omega)
              omega
            have hla1 : 1 ≤ la := by rw [hla]; exact Nat.le_add_right _ _
            have hlb1 : 1 ≤ lb := by rw [hlb]; exact Nat.le_add_right _ _
            have HN1 : Hid (¬ (la = Pl.lw c n ∧ q1 = Pl.lv c n)) := by rw [hla]; exact never_settled c n _ _ (by omega) HL.out (Pl.skip_ne _ _) hq1
            have HN2 : Hid (¬ (lb = Pl.lw c n ∧ q2 = Pl.lv c n)) := by rw [hlb]; exact never_settled c n _ _ (by omega) HL.out (Pl.skip_ne _ _) hq2
            have HOrd : Hid (la < lb ∨ (la = lb ∧ q1 < q2)) := by rw [hla, hlb]; exact pair_order c n _ _ _ _ (Pl.skip_lt _ _) hq1 hq2
            have HQ1 : Hid ((QL c n)[Pl.skip (SN c n) i % (QL c n).length]? = some q1) := hq1
            have HQ2 : Hid ((QL c n)[Pl.skip (SN c n) (i + 1) % (QL c n).length]? = some q2) := hq2
            have HLa : Hid (la = 1 + Pl.skip (SN c n) i / (QL c n).length) := hla
            have HLb : Hid (lb = 1 + Pl.skip (SN c n) (i + 1) / (QL c n).length) := hlb
            have m1 := and0_no q1 (Pl.lv c n) (QL_lt c n hn _ _ hq1) (Pl.lv_lt c n (by omega)) (QL_pos c n _ _ hq1).2.2
            have m2 := and0_no q2 (Pl.lv c n) (QL_lt c n hn _ _ hq2) (Pl.lv_lt c n (by omega)) (QL_pos c n _ _ hq2).2.2
            have HS1 : Hid (q1 < 2 ^ n) := by have := (QL_pos c n _ _ hq1).2.1; have := Nat.two_pow_pos n; show q1 < 2 ^ n; omega
            have HS2 : Hid (q2 < 2 ^ n) := by have := (QL_pos c n _ _ hq2).2.1; have := Nat.two_pow_pos n; show q2 < 2 ^ n; omega
            have HE1 : Hid (Pl.ml q1 ≠ []) := QL_ml c n hn _ _ hq1
            have HE2 : Hid (Pl.ml q2 ≠ []) := QL_ml c n hn _ _ hq2
            clear hq1 hq2 hla hlb hs1 hs2
            go_wp2_with fail
            refine (zzOther_int _ w.heap.size n c (w.heap.size + 1) i rfl hn hc HL (by omega) wr _ _ (by omega) (by omega) hg HT HO q1 la HQ1 HLa).mono ?_
            rintro e w4 ⟨g, cap, al', pr', rfl, hown, hO4, hgr⟩
            have hz4 := hgr.size
            have HW4 : Hid (w4.ownsRow wr.heap.size 3 1 (.slice (some ⟨g, 0, none⟩) (Pl.ml q1).length cap) (Pl.ml q1).length (cells (Pl.ml q1))) := hown
            have HB4 : Hid (Below w.heap.size w w4) := below_grown HBl.out hgr HBl.out.size (Nat.le_refl _)
            have O5 : Hid (Osc w.heap.size n c (w.heap.size + 1) al' pr' (w4.alloc (.cells #[.int .i64 (la : Int), .slice (some ⟨g, 0, none⟩) (Pl.ml q1).length cap] 33))) := hO4.alloc _
            have N5 : Hid (Blk (w4.alloc (.cells #[.int .i64 (la : Int), .slice (some ⟨g, 0, none⟩) (Pl.ml q1).length cap] 33)) w4.heap.size #[.int .i64 (la : Int), .slice (some ⟨g, 0, none⟩) (Pl.ml q1).length cap] 33) := blk_new _ _ _
            have B5 : Hid (Below w.heap.size w (w4.alloc (.cells #[.int .i64 (la : Int), .slice (some ⟨g, 0, none⟩) (Pl.ml q1).length cap] 33))) := HB4.out.alloc HB4.out.size _
            have T5 : Hid (TabAt (w4.alloc (.cells #[.int .i64 (la : Int), .slice (some ⟨g, 0, none⟩) (Pl.ml q1).length cap] 33))) := hT.out.below hg B5.out
            have hC5 : w.heap.size + 1 ≤ (w4.alloc (.cells #[.int .i64 (la : Int), .slice (some ⟨g, 0, none⟩) (Pl.ml q1).length cap] 33)).heap.size := by rw [World.size_alloc]; omega
            clear hown hO4 hgr HBl HT HO
            go_wp2_with fail
            refine (zzOther_int _ w.heap.size n c (w.heap.size + 1) (i + 1) rfl hn hc HL (by omega) _ _ _ hC5 (by omega) hg T5 O5 q2 lb HQ2 HLb).mono ?_
            rintro e w6 ⟨g', cap', al2, pr2, rfl, hown', _, hgr'⟩
            have hz6 := hgr'.size
            rw [World.size_alloc] at hz6
            have N6 := N5.out.grown hgr' (fun e => by have := Option.some.inj e; omega)
            have k0 : w6.cell? ⟨w4.heap.size, 0, none⟩ = some (.int .i64 (la : Int)) := N6.cell 0 rfl
            have k1 : w6.cell? ⟨w4.heap.size, 1, none⟩ = some (.slice (some ⟨g, 0, none⟩) (Pl.ml q1).length cap) := N6.cell 1 rfl
            have l1 : w4.heap.size < w6.heap.size := N6.lt
            have HW6 : Hid (w6.ownsRow wr.heap.size 3 1 (.slice (some ⟨g, 0, none⟩) (Pl.ml q1).length cap) (Pl.ml q1).length (cells (Pl.ml q1))) := owns_kept (HW4.out.alloc _) hgr' hlt2
            have HV6 : Hid (w6.ownsRow _ 3 1 (.slice (some ⟨g', 0, none⟩) (Pl.ml q2).length cap') (Pl.ml q2).length (cells (Pl.ml q2))) := hown'
            have HB6 : Hid (Below w.heap.size w w6) := below_grown B5.out hgr' B5.out.size (Nat.le_refl _)
            clear hown' hgr' N6 N5 B5 T5 O5 hC5 HW4 HB4 hz4 hz6
            go_wp2_with fail
            refine (mask_any q1 n g cap _ (by omega) HS1 HE1 _ (HW6.out.alloc _)).mono ?_
            rintro e w7 ⟨rfl, rfl⟩
            go_wp2_with fail
            refine (mask_any q2 n g' cap' _ (by omega) HS2 HE2 _ (HV6.out.alloc _)).mono ?_
            rintro e w7 ⟨rfl, rfl⟩
            have HFin : Hid (((la : Int) == (Pl.lw c n : Int)) = false ∨ (((la : Int) == (Pl.lw c n : Int)) = true ∧ ((q1 : Int) == (Pl.lv c n : Int)) = false)) := by
              by_cases e : la = Pl.lw c n
              · have : q1 ≠ Pl.lv c n := fun h => HN1.out ⟨e, h⟩
                exact .inr ⟨by rw [beq_iff_eq]; omega, by rw [beq_eq_false_iff_ne]; omega⟩
              · exact .inl (by rw [beq_eq_false_iff_ne]; omega)
            have HFin2 : Hid (((lb : Int) == (Pl.lw c n : Int)) = false ∨ (((lb : Int) == (Pl.lw c n : Int)) = true ∧ ((q2 : Int) == (Pl.lv c n : Int)) = false)) := by
              by_cases e : lb = Pl.lw c n
              · have : q2 ≠ Pl.lv c n := fun h => HN2.out ⟨e, h⟩
                exact .inr ⟨by rw [beq_iff_eq]; omega, by rw [beq_eq_false_iff_ne]; omega⟩
              · exact .inl (by rw [beq_eq_false_iff_ne]; omega)
            have HFin3 : Hid ((la : Int) < (lb : Int) ∨ (¬ (la : Int) < (lb : Int) ∧ ((la : Int) == (lb : Int)) = true ∧ (q1 : Int) < (q2 : Int))) := by
              rcases HOrd.out with h | ⟨h1, h2⟩
              · exact .inl (by omega)
              · exact .inr ⟨by omega, by rw [beq_iff_eq]; omega, by omega⟩
            rcases HFin.out with x1 | ⟨x1, x2⟩ <;> rcases HFin2.out with y1 | ⟨y1, y2⟩ <;> rcases HFin3.out with z1 | ⟨z1, z2, z3⟩
            all_goals
              go_wp2
              go_ret
              exact ⟨rfl, HB6.out.alloc HB6.out.size _⟩

set_option maxHeartbeats 1000000 in
set_option maxRecDepth 100000 in
theorem str_out (n c i : Int) (h : n < 1 ∨ 12 < n) (w : World) :
    Calls Tryd.prog 4 #[.int .i64 n, .int .u64 c, .int .i64 i] w fun e w' => e = .returned (.bool true) ∧ Below w.heap.size w w' := by
  rcases h with h | h
  · go_enter Tryd.func4, Tryd.ntmps4
    go_wp2
    go_ret
    exact ⟨rfl, Below.refl _ _⟩
  · have h1 : ¬ n < 1 := by omega
    go_enter Tryd.func4, Tryd.ntmps4
    go_wp2
    go_ret
    exact ⟨rfl, Below.refl _ _⟩

set_option maxHeartbeats 1000000 in
set_option maxRecDepth 100000 in
theorem str_i (n : Nat) (c i : Int) (h1 : 1 ≤ n) (h2 : n ≤ 12) (h : i < 0 ∨ ((n * 2 ^ n : Nat) : Int) < i) (w : World) :
    Calls Tryd.prog 4 #[.int .i64 n, .int .u64 c, .int .i64 i] w fun e w' => e = .returned (.bool true) ∧ Below w.heap.size w w' := by
  obtain ⟨hsh, hM⟩ := sh_val n h2
  obtain ⟨M, hMe⟩ : ∃ M, M = n * 2 ^ n := ⟨_, rfl⟩
  rw [← hMe] at hsh hM h
  clear hMe
  rcases h with h | h
  · go_enter Tryd.func4, Tryd.ntmps4
    go_wp2
    go_ret
    exact ⟨rfl, Below.refl _ _⟩
  · have h3 : ¬ i < 0 := by omega
    go_enter Tryd.func4, Tryd.ntmps4
    go_wp2
    go_ret
    exact ⟨rfl, Below.refl _ _⟩

set_option maxHeartbeats 1000000 in
set_option maxRecDepth 100000 in
theorem str_low (n c i : Nat) (hn1 : 1 ≤ n) (hn : n ≤ 12) (hc : Hid (c < 18446744073709551616)) (w : World) (h : Pl.lw c n = 0) (hi0 : i ≤ n * 2 ^ n) :
    Calls Tryd.prog 4 #[.int .i64 n, .int .u64 c, .int .i64 i] w fun e w' => e = .returned (.bool true) ∧ Below w.heap.size w w' := by
  have h0 : ((Pl.lw c n : Int) == 0) = true := by rw [beq_iff_eq]; omega
  clear h
  obtain ⟨hsh, hM⟩ := sh_val n hn
  obtain ⟨M, hMe⟩ : ∃ M, M = n * 2 ^ n := ⟨_, rfl⟩
  rw [← hMe] at hsh hM hi0
  clear hMe
  go_enter Tryd.func4, Tryd.ntmps4
  go_wp2_with (go_at_call 7; refine (live_two n c (by omega) hc _).mono ?_; rintro e w2 ⟨rfl, rfl⟩)
  go_ret
  exact ⟨rfl, Below.refl _ _⟩

theorem str_walk (n c i : Int) (hc0 : 0 ≤ c) (hc1 : c < 18446744073709551616) (w : World) (hg : 0 < w.heap.size) (hT : TabAt w) :
    Calls Tryd.prog 4 #[.int .i64 n, .int .u64 c, .int .i64 i] w fun e w' => e = .returned (.bool true) ∧ Below w.heap.size w w' := by
  by_cases h : n < 1 ∨ 12 < n
  · exact str_out n c i h w
  · obtain ⟨n, rfl⟩ := Int.eq_ofNat_of_zero_le (show 0 ≤ n by omega)
    by_cases hi : i < 0 ∨ ((n * 2 ^ n : Nat) : Int) < i
    · exact str_i n c i (by omega) (by omega) hi w
    · obtain ⟨c, rfl⟩ := Int.eq_ofNat_of_zero_le hc0
      obtain ⟨i, rfl⟩ := Int.eq_ofNat_of_zero_le (show 0 ≤ i by omega)
      have hc : c < 18446744073709551616 := by omega
      by_cases h1 : Pl.lw c n = 0
      · exact str_low n c i (by omega) (by omega) hc w h1 (by omega)
      · exact str_mid n c i (by omega) (by omega) hc w hg hT h1 (by omega)

end Go.Proofs.Qxb6609497aDoor
