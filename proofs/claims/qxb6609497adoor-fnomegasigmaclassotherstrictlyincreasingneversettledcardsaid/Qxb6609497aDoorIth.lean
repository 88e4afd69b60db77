/-
  THE WALK of FnOmegaSigmaClassOtherIsIthPairSkippingSettled.
-/
import Derived.Test.Qxb6609497aDoorW8
namespace Go.Proofs.Qxb6609497aDoor
open Go.RowKit

/-- How many pairs that are left have been passed when leader a + 1 and the quorums 1 to j have. -/
def kAt (c n a j : Nat) : Nat := Pl.left (SN c n) (a * (QL c n).length + (Pl.qk (Pl.lv c n) j).length)

theorem kAt_miss (c n a j : Nat) (h : (j + 1) &&& Pl.lv c n = 0) : kAt c n a (j + 1) = kAt c n a j := by unfold kAt; rw [Pl.qk_miss _ _ h]

theorem kAt_settled (c n a j : Nat) (h : ¬ (j + 1) &&& Pl.lv c n = 0) (h1 : a + 1 = Pl.lw c n) (h2 : j + 1 = Pl.lv c n) : kAt c n a (j + 1) = kAt c n a j := by
  have e : a * (QL c n).length + (Pl.qk (Pl.lv c n) j).length = SN c n := by
    unfold SN LA
    rw [show Pl.lw c n - 1 = a from by omega, show Pl.lv c n - 1 = j from by omega]
  unfold kAt
  rw [Pl.qk_hit _ _ h, List.length_append, List.length_singleton, ← Nat.add_assoc, e]
  exact Pl.left_same _

theorem item_ne (c n a j : Nat) (hn : n ≤ 64) (hl : Pl.lw c n ≠ 0) (hj : j < 2 ^ n - 1) (h : ¬ (j + 1) &&& Pl.lv c n = 0) (hne : ¬ (a + 1 = Pl.lw c n ∧ j + 1 = Pl.lv c n)) : a * (QL c n).length + (Pl.qk (Pl.lv c n) j).length ≠ SN c n := by
  intro e
  unfold SN at e
  obtain ⟨l1, l2, l3⟩ := Pl.live_in c n hn hl
  have hx : (Pl.qk (Pl.lv c n) j).length < (QL c n).length := Pl.qk_lt _ _ _ hj h
  obtain ⟨e1, e2⟩ := Pl.pair_inj a _ _ _ _ hx (LA_lt c n hn hl) e
  have := Pl.qk_one _ _ j (Pl.lv c n - 1) hj l1 h l3 e2
  exact hne ⟨by omega, by omega⟩

theorem kAt_other (c n a j : Nat) (hn : n ≤ 64) (hl : Pl.lw c n ≠ 0) (hj : j < 2 ^ n - 1) (h : ¬ (j + 1) &&& Pl.lv c n = 0) (hne : ¬ (a + 1 = Pl.lw c n ∧ j + 1 = Pl.lv c n)) : kAt c n a (j + 1) = kAt c n a j + 1 := by
  unfold kAt
  rw [Pl.qk_hit _ _ h, List.length_append, List.length_singleton, ← Nat.add_assoc]
  exact Pl.left_step _ _ (item_ne c n a j hn hl hj h hne)

theorem kAt_end (c n a : Nat) : kAt c n a (2 ^ n - 1) = kAt c n (a + 1) 0 := by
  unfold kAt
  congr 1
  simp [Pl.qk, QL, Nat.add_mul]

theorem kAt_found (c n a j i : Nat) (hn : n ≤ 64) (hl : Pl.lw c n ≠ 0) (hj : j < 2 ^ n - 1) (h : ¬ (j + 1) &&& Pl.lv c n = 0) (hne : ¬ (a + 1 = Pl.lw c n ∧ j + 1 = Pl.lv c n)) (hk : kAt c n a j = i) :
    1 + Pl.skip (SN c n) i / (QL c n).length = a + 1 ∧ (QL c n)[Pl.skip (SN c n) i % (QL c n).length]? = some (j + 1) := by
  have e := Pl.skip_left _ _ _ (item_ne c n a j hn hl hj h hne) hk
  have hx : (Pl.qk (Pl.lv c n) j).length < (QL c n).length := Pl.qk_lt _ _ _ hj h
  obtain ⟨d1, d2⟩ := Pl.pair_div a _ _ hx
  rw [e, d1, d2]
  exact ⟨by omega, Pl.qk_at _ _ _ hj h⟩

theorem kAt_le (c n a j : Nat) (hn : n ≤ 12) (ha : a ≤ 12) (hj : j ≤ 2 ^ n - 1) : kAt c n a j ≤ 53235 := by
  have h1 := Pl.left_le (SN c n) (a * (QL c n).length + (Pl.qk (Pl.lv c n) j).length)
  have h2 := QL_len c n hn
  have h3 : a * (QL c n).length ≤ 12 * 4095 := Nat.mul_le_mul ha h2
  have h4 := Pl.qk_mono (Pl.lv c n) j (2 ^ n - 1) hj
  unfold kAt
  unfold QL at h2 h3 h1 ⊢
  omega

theorem kAt_start (c n : Nat) : kAt c n 0 0 = 0 := by
  unfold kAt
  simp [Pl.qk, Pl.left]

/-- The pair that is looked for. -/
def Found (c n i ld q : Nat) : Prop := ld = 1 + Pl.skip (SN c n) i / (QL c n).length ∧ (QL c n)[Pl.skip (SN c n) i % (QL c n).length]? = some q

/-- Ahead of leader a + 1, nothing found yet; or found. -/
def IRel (c n i : Nat) (t10 t11 t12 t13 t14 : Value) : Prop :=
  (∃ a : Nat, a ≤ n ∧ t10 = .int .i64 0 ∧ t11 = .int .u64 0 ∧ t12 = .bool false ∧ t13 = .int .i64 (kAt c n a 0) ∧ kAt c n a 0 ≤ i ∧ t14 = .int .i64 ((a : Int) + 1)) ∨
  (∃ a ld q k : Nat, a ≤ n ∧ t10 = .int .i64 ld ∧ t11 = .int .u64 q ∧ t12 = .bool true ∧ t13 = .int .i64 k ∧ Found c n i ld q ∧ t14 = .int .i64 ((a : Int) + 1))

/-- Inside leader a + 1, ahead of quorum j + 1. -/
def JRel (c n i F a : Nat) (t10 t11 t12 t13 t15 : Value) : Prop :=
  ∃ j : Nat, j ≤ F ∧ t10 = .int .i64 0 ∧ t11 = .int .u64 0 ∧ t12 = .bool false ∧ t13 = .int .i64 (kAt c n a j) ∧ kAt c n a j ≤ i ∧ t15 = .int .u64 ((j : Int) + 1)

theorem meet0_no (k m : Nat) (hk : k + 1 < 18446744073709551616) (hm : m < 18446744073709551616) (h : ¬ (k + 1) &&& m = 0) : (bits BinOp.and IntKind.u64 ((k : Int) + 1) (m : Int) == 0) = false := by
  rw [meet_val k m hk hm, beq_eq_false_iff_ne]; omega
theorem meet0_yes (k m : Nat) (hk : k + 1 < 18446744073709551616) (hm : m < 18446744073709551616) (h : (k + 1) &&& m = 0) : (bits BinOp.and IntKind.u64 ((k : Int) + 1) (m : Int) == 0) = true := by
  rw [meet_val k m hk hm, h]; rfl

theorem sh_val (n : Nat) (hn : n ≤ 12) : wrap64 ((n : Int) * 2 ^ n) = ((n * 2 ^ n : Nat) : Int) ∧ n * 2 ^ n ≤ 49152 := by
  have h : n * 2 ^ n ≤ 12 * 4096 := Nat.mul_le_mul hn (Pl.pow_le n hn)
  refine ⟨?_, by omega⟩
  rw [pow_cast, ← Int.natCast_mul]
  unfold wrap64
  omega

set_option maxHeartbeats 2000000 in
set_option maxRecDepth 100000 in
theorem ith_mid (n c i : Nat) (hn1 : 1 ≤ n) (hn : n ≤ 12) (hc : Hid (c < 18446744073709551616)) (w : World) (hg : 0 < w.heap.size) (hT : Hid (TabAt w)) (HL : Hid (Pl.lw c n ≠ 0)) (hi0 : i ≤ n * 2 ^ n) :
    Calls Tryd.prog 3 #[.int .i64 n, .int .u64 c, .int .i64 i] w fun e w' => e = .returned (.bool true) ∧ Below w.heap.size w w' := by
  have h0 : ((Pl.lw c n : Int) == 0) = false := by have := HL.out; rw [beq_eq_false_iff_ne]; omega
  obtain ⟨hsh, hM⟩ := sh_val n hn
  obtain ⟨M, hMe⟩ : ∃ M, M = n * 2 ^ n := ⟨_, rfl⟩
  rw [← hMe] at hsh hM hi0
  obtain ⟨F, hFe⟩ : ∃ F, F = 2 ^ n - 1 := ⟨_, rfl⟩
  have hfull := upTo_val n (by omega)
  rw [← hFe] at hfull
  have hF : F ≤ 4095 := by have := Pl.pow_le n hn; omega
  have HF : Hid (F = 2 ^ n - 1) := hFe
  clear hMe hFe
  go_enter Tryd.func3, Tryd.ntmps3
  go_wp2_with (go_at_call 7; refine (live_two n c (by omega) hc _).mono ?_; rintro e w2 ⟨rfl, rfl⟩)
  clear hsh hfull h0
  go_loop [10, 11, 12, 13, 14] (fun t10 t11 t12 t13 t14 => IRel c n i t10 t11 t12 t13 t14) (fun _ _ _ _ t14 => n + 2 - (intOf t14).toNat)
  case atStart => exact .inl ⟨0, by omega, rfl, rfl, rfl, by rw [kAt_start]; rfl, by rw [kAt_start]; omega, rfl⟩
  case round =>
    rcases hrel with ⟨a, ha, rfl, rfl, rfl, rfl, hk0, rfl⟩ | ⟨a, ld, q, k, ha, rfl, rfl, rfl, rfl, hfd, rfl⟩
    · by_cases hlt : a < n
      · go_wp2_with fail
        go_loop [10, 11, 12, 13, 15] (fun t10 t11 t12 t13 t15 => JRel c n i F a t10 t11 t12 t13 t15) (fun _ _ _ _ t15 => F + 2 - (intOf t15).toNat)
        case atStart => exact ⟨0, by omega, rfl, rfl, rfl, rfl, hk0, rfl⟩
        case round =>
          obtain ⟨j, hj, rfl, rfl, rfl, rfl, hkj, rfl⟩ := hrel
          clear hk0
          have hjF : j ≤ 2 ^ n - 1 := by rw [← HF.out]; exact hj
          have hkl := kAt_le c n a j hn (by omega) hjF
          have HJ : Hid (j ≤ 2 ^ n - 1) := hjF
          clear hjF
          by_cases hjlt : j < F
          · have HJ' : Hid (j < 2 ^ n - 1) := by show j < 2 ^ n - 1; rw [← HF.out]; exact hjlt
            by_cases hm : (j + 1) &&& Pl.lv c n = 0
            · have ht := meet0_yes j (Pl.lv c n) (by omega) (Pl.lv_lt c n (by omega)) hm
              have HM : Hid ((j + 1) &&& Pl.lv c n = 0) := hm
              clear hm
              go_wp2
              go_round
              case rel => exact ⟨j + 1, by omega, rfl, rfl, rfl, by rw [kAt_miss c n a j HM.out], by rw [kAt_miss c n a j HM.out]; exact hkj, by go_num⟩
              case measure => simp [intOf]; omega
            · have ht := meet0_no j (Pl.lv c n) (by omega) (Pl.lv_lt c n (by omega)) hm
              have HM : Hid (¬ (j + 1) &&& Pl.lv c n = 0) := hm
              clear hm
              by_cases hs1 : a + 1 = Pl.lw c n
              · have b1 : ((a : Int) + 1 == (Pl.lw c n : Int)) = true := by rw [beq_iff_eq]; omega
                have H1 : Hid (a + 1 = Pl.lw c n) := hs1
                clear hs1
                by_cases hs2 : j + 1 = Pl.lv c n
                · have b2 : ((j : Int) + 1 == (Pl.lv c n : Int)) = true := by rw [beq_iff_eq]; omega
                  have H2 : Hid (j + 1 = Pl.lv c n) := hs2
                  clear hs2
                  go_wp2
                  go_round
                  case rel =>
                    have e2 := kAt_settled c n a j HM.out H1.out H2.out
                    exact ⟨j + 1, by omega, rfl, rfl, rfl, by rw [e2], by rw [e2]; exact hkj, by go_num⟩
                  case measure => simp [intOf]; omega
                · have b2 : ((j : Int) + 1 == (Pl.lv c n : Int)) = false := by rw [beq_eq_false_iff_ne]; omega
                  have H2 : Hid (¬ j + 1 = Pl.lv c n) := hs2
                  clear hs2
                  have HN : Hid (¬ (a + 1 = Pl.lw c n ∧ j + 1 = Pl.lv c n)) := fun h => H2.out h.2
                  by_cases hki : kAt c n a j = i
                  · have bk : ((kAt c n a j : Int) == (i : Int)) = true := by rw [beq_iff_eq]; omega
                    have HK : Hid (kAt c n a j = i) := hki
                    clear hki
                    go_wp2
                    go_round
                    case rel =>
                      obtain ⟨f1, f2⟩ := kAt_found c n a j i (by omega) HL.out HJ'.out HM.out HN.out HK.out
                      exact .inr ⟨a + 1, a + 1, j + 1, _, by omega, by go_num, by go_num, rfl, rfl, ⟨f1.symm, f2⟩, by go_num⟩
                    case measure => simp [intOf]; omega
                  · have bk : ((kAt c n a j : Int) == (i : Int)) = false := by rw [beq_eq_false_iff_ne]; omega
                    have HK : Hid (¬ kAt c n a j = i) := hki
                    clear hki
                    go_wp2
                    go_round
                    case rel =>
                      have e2 := kAt_other c n a j (by omega) HL.out HJ'.out HM.out HN.out
                      exact ⟨j + 1, by omega, rfl, rfl, rfl, by rw [e2]; go_num, by rw [e2]; have := HK.out; omega, by go_num⟩
                    case measure => simp [intOf]; omega
              · have b1 : ((a : Int) + 1 == (Pl.lw c n : Int)) = false := by rw [beq_eq_false_iff_ne]; omega
                have H1 : Hid (¬ a + 1 = Pl.lw c n) := hs1
                clear hs1
                have HN : Hid (¬ (a + 1 = Pl.lw c n ∧ j + 1 = Pl.lv c n)) := fun h => H1.out h.1
                by_cases hki : kAt c n a j = i
                · have bk : ((kAt c n a j : Int) == (i : Int)) = true := by rw [beq_iff_eq]; omega
                  have HK : Hid (kAt c n a j = i) := hki
                  clear hki
                  go_wp2
                  go_round
                  case rel =>
                    obtain ⟨f1, f2⟩ := kAt_found c n a j i (by omega) HL.out HJ'.out HM.out HN.out HK.out
                    exact .inr ⟨a + 1, a + 1, j + 1, _, by omega, by go_num, by go_num, rfl, rfl, ⟨f1.symm, f2⟩, by go_num⟩
                  case measure => simp [intOf]; omega
                · have bk : ((kAt c n a j : Int) == (i : Int)) = false := by rw [beq_eq_false_iff_ne]; omega
                  have HK : Hid (¬ kAt c n a j = i) := hki
                  clear hki
                  go_wp2
                  go_round
                  case rel =>
                    have e2 := kAt_other c n a j (by omega) HL.out HJ'.out HM.out HN.out
                    exact ⟨j + 1, by omega, rfl, rfl, rfl, by rw [e2]; go_num, by rw [e2]; have := HK.out; omega, by go_num⟩
                  case measure => simp [intOf]; omega
          · have e : j = F := by omega
            have HE : Hid (j = 2 ^ n - 1) := by rw [Hid, ← HF.out]; exact e
            clear e
            go_wp2
            go_round
            case rel =>
              have e2 : kAt c n a j = kAt c n (a + 1) 0 := by rw [HE.out]; exact kAt_end c n a
              exact .inl ⟨a + 1, by omega, rfl, rfl, rfl, by rw [e2], by rw [← e2]; exact hkj, by go_num⟩
            case measure => simp [intOf]; omega
      · go_wp2
        go_ret
        exact ⟨rfl, Below.refl _ _⟩
    · obtain ⟨hf1, hf2⟩ := hfd
      have HQ : Hid ((QL c n)[Pl.skip (SN c n) i % (QL c n).length]? = some q) := hf2
      have HLd : Hid (ld = 1 + Pl.skip (SN c n) i / (QL c n).length) := hf1
      clear hf1 hf2
      by_cases hlt : a < n
      all_goals
        go_wp2_with (go_at_call 8; refine (newOsc_any n _).mono ?_; rintro e w2 ⟨rfl, rfl⟩)
        have hR : ORel w w.heap.size n c 0 (w.alloc (.cells (oscC n 0 (.slice none 0 0) (.pointer none)) 50)) :=
          ⟨by rw [Nat.pow_zero, Nat.mod_one]; exact blk_new _ _ _, (Below.refl _ _).alloc (Nat.le_refl _) _⟩
        go_loopw [17] (fun p wr => ∃ k : Nat, k ≤ 64 ∧ p = .int .i64 ((k : Int) + 1) ∧ ORel w w.heap.size n c k wr) (fun p _ => 65 - (intOf p).toNat)
        case atStart => exact ⟨0, by omega, rfl, hR⟩
        case round =>
          obtain ⟨k', hk', rfl, hC⟩ := hrel
          clear hR
          by_cases hlt' : k' < 64
          · by_cases hb : c.testBit k' = true
            · have ht := bit1_yes c k' hc.out hb
              have HB : Hid (c.testBit k' = true) := hb
              clear hb
              have HM : Hid (c % 2 ^ k' < 18446744073709551616) := mod_lt64' c k' hc.out
              have HBk : Hid (Blk wr w.heap.size (oscC n (c % 2 ^ k') (.slice none 0 0) (.pointer none)) 50) := hC.1
              go_wp2_with (go_at_call 9; refine (oscCrash_any _ n _ k' hlt' HM _ _ _ HBk).mono ?_; rintro e w3 ⟨rfl, hx, hgr⟩)
              go_roundw
              case rel => exact ⟨k' + 1, by omega, by go_num, hC.hit (Nat.le_refl _) HB.out hx hgr⟩
              case measure => simp [intOf]; omega
            · have hb' : c.testBit k' = false := by simpa using hb
              have ht := bit1_no c k' hc.out hb'
              have HB : Hid (c.testBit k' = false) := hb'
              clear hb hb'
              go_wp2
              go_roundw
              case rel => exact ⟨k' + 1, by omega, by go_num, hC.miss HB.out⟩
              case measure => simp [intOf]; omega
          · have e : k' = 64 := by omega
            subst e
            obtain ⟨hblk, hbel⟩ := hC
            rw [mod_all' c hc.out] at hblk
            have HO : Hid (Osc w.heap.size n c (w.heap.size + 1) (.slice none 0 0) (.pointer none) wr) := ⟨hblk, .inl rfl, .inl rfl⟩
            have hlt2 : w.heap.size < wr.heap.size := hblk.lt
            have HT : Hid (TabAt wr) := hT.out.below hg hbel
            have HBl : Hid (Below w.heap.size w wr) := hbel
            clear hblk hbel
            go_wp2_with fail
            refine (zzOther_any w.heap.size n c (w.heap.size + 1) i hn hc HL (by omega) wr _ _ (by omega) (by omega) hg HT HO q HQ).mono ?_
            rintro e w4 ⟨g, cap, al', pr', rfl, hown, _, hgr⟩
            rw [← HLd.out]
            have HQs : Hid (q < 18446744073709551616) := QL_lt c n hn _ _ HQ.out
            have HQn : Hid (Pl.ml q ≠ []) := QL_ml c n hn _ _ HQ.out
            have HW : Hid (w4.ownsRow wr.heap.size 3 1 (.slice (some ⟨g, 0, none⟩) (Pl.ml q).length cap) (Pl.ml q).length (cells (Pl.ml q))) := hown
            have HB4 : Hid (Below w.heap.size w w4) := below_grown HBl.out hgr HBl.out.size (Nat.le_refl _)
            clear hown hgr
            go_wp2_with (go_at_call 11; refine (members_two q HQs _ wr.heap.size _ (HW.out.alloc _) HQn).mono ?_; rintro e w5 ⟨rfl, rfl⟩)
            go_ret
            exact ⟨rfl, HB4.out.alloc HB4.out.size _⟩

set_option maxHeartbeats 1000000 in
set_option maxRecDepth 100000 in
theorem ith_out (n c i : Int) (h : n < 1 ∨ 12 < n) (w : World) :
    Calls Tryd.prog 3 #[.int .i64 n, .int .u64 c, .int .i64 i] w fun e w' => e = .returned (.bool true) ∧ Below w.heap.size w w' := by
  rcases h with h | h
  · go_enter Tryd.func3, Tryd.ntmps3
    go_wp2
    go_ret
    exact ⟨rfl, Below.refl _ _⟩
  · have h1 : ¬ n < 1 := by omega
    go_enter Tryd.func3, Tryd.ntmps3
    go_wp2
    go_ret
    exact ⟨rfl, Below.refl _ _⟩

set_option maxHeartbeats 1000000 in
set_option maxRecDepth 100000 in
theorem ith_i (n : Nat) (c i : Int) (h1 : 1 ≤ n) (h2 : n ≤ 12) (h : i < 0 ∨ ((n * 2 ^ n : Nat) : Int) < i) (w : World) :
    Calls Tryd.prog 3 #[.int .i64 n, .int .u64 c, .int .i64 i] w fun e w' => e = .returned (.bool true) ∧ Below w.heap.size w w' := by
  obtain ⟨hsh, hM⟩ := sh_val n h2
  obtain ⟨M, hMe⟩ : ∃ M, M = n * 2 ^ n := ⟨_, rfl⟩
  rw [← hMe] at hsh hM h
  clear hMe
  rcases h with h | h
  · go_enter Tryd.func3, Tryd.ntmps3
    go_wp2
    go_ret
    exact ⟨rfl, Below.refl _ _⟩
  · have h3 : ¬ i < 0 := by omega
    go_enter Tryd.func3, Tryd.ntmps3
    go_wp2
    go_ret
    exact ⟨rfl, Below.refl _ _⟩

set_option maxHeartbeats 1000000 in
set_option maxRecDepth 100000 in
theorem ith_low (n c i : Nat) (hn1 : 1 ≤ n) (hn : n ≤ 12) (hc : Hid (c < 18446744073709551616)) (w : World) (h : Pl.lw c n = 0) (hi0 : i ≤ n * 2 ^ n) :
    Calls Tryd.prog 3 #[.int .i64 n, .int .u64 c, .int .i64 i] w fun e w' => e = .returned (.bool true) ∧ Below w.heap.size w w' := by
  have h0 : ((Pl.lw c n : Int) == 0) = true := by rw [beq_iff_eq]; omega
  clear h
  obtain ⟨hsh, hM⟩ := sh_val n hn
  obtain ⟨M, hMe⟩ : ∃ M, M = n * 2 ^ n := ⟨_, rfl⟩
  rw [← hMe] at hsh hM hi0
  clear hMe
  go_enter Tryd.func3, Tryd.ntmps3
  go_wp2_with (go_at_call 7; refine (live_two n c (by omega) hc _).mono ?_; rintro e w2 ⟨rfl, rfl⟩)
  go_ret
  exact ⟨rfl, Below.refl _ _⟩

theorem ith_walk (n c i : Int) (hc0 : 0 ≤ c) (hc1 : c < 18446744073709551616) (w : World) (hg : 0 < w.heap.size) (hT : TabAt w) :
    Calls Tryd.prog 3 #[.int .i64 n, .int .u64 c, .int .i64 i] w fun e w' => e = .returned (.bool true) ∧ Below w.heap.size w w' := by
  by_cases h : n < 1 ∨ 12 < n
  · exact ith_out n c i h w
  · obtain ⟨n, rfl⟩ := Int.eq_ofNat_of_zero_le (show 0 ≤ n by omega)
    by_cases hi : i < 0 ∨ ((n * 2 ^ n : Nat) : Int) < i
    · exact ith_i n c i (by omega) (by omega) hi w
    · obtain ⟨c, rfl⟩ := Int.eq_ofNat_of_zero_le hc0
      obtain ⟨i, rfl⟩ := Int.eq_ofNat_of_zero_le (show 0 ≤ i by omega)
      have hc : c < 18446744073709551616 := by omega
      by_cases h1 : Pl.lw c n = 0
      · exact ith_low n c i (by omega) (by omega) hc w h1 (by omega)
      · exact ith_mid n c i (by omega) (by omega) hc w hg hT h1 (by omega)

end Go.Proofs.Qxb6609497aDoor
