/-
  THE WALK of FnPsiClassSettledFollowsCrashKeepsEarlierAnswer.
-/
import Derived.Test.Qxb6609497aDoorPsi1
namespace Go.Proofs.Qxb6609497aDoor
open Go.RowKit

/-- An answer that was given: its local (block l) and the pair behind it (block b), with its list. -/
structure Ans (C s x l b g cap : Nat) (w : World) : Prop where
  loc : Blk w l #[.pointer (some ⟨b, 0, none⟩), .string ByteArray.empty] 44
  pair : Blk w b #[.int .i64 x, .slice (some ⟨g, 0, none⟩) (Pl.ml s).length cap] 33
  own : w.ownsRow C 3 1 (.slice (some ⟨g, 0, none⟩) (Pl.ml s).length cap) (Pl.ml s).length (cells (Pl.ml s))

theorem Ans.grown {C s x l b g cap B : Nat} {w w' : World} (h : Ans C s x l b g cap w) (hg : w.grownBy w' (some B)) (hl : B < l) (hb : B < b) (hC : B < C) : Ans C s x l b g cap w' :=
  ⟨h.loc.grown hg (fun e => by cases e; omega), h.pair.grown hg (fun e => by cases e; omega), owns_kept h.own hg hC⟩

theorem Ans.alloc {C s x l b g cap : Nat} {w : World} (h : Ans C s x l b g cap w) (o : Obj) : Ans C s x l b g cap (w.alloc o) := ⟨h.loc.alloc o, h.pair.alloc o, h.own.alloc o⟩

theorem Ans.below {C s x l b g cap : Nat} {w w' : World} (h : Ans C s x l b g cap w) (hb : Below w.heap.size w w') : Ans C s x l b g cap w' :=
  ⟨h.loc.below hb h.loc.lt, h.pair.below hb h.pair.lt, h.own.kept (grown_below hb none) (by cases (Value.slice (some ⟨g, 0, none⟩) (Pl.ml s).length cap).ownBlock <;> simp)⟩

theorem or_lt (c q : Nat) (hc : c < 18446744073709551616) (hq : q < 64) : c ||| 2 ^ q < 18446744073709551616 := by
  have h : 2 ^ q < 2 ^ 64 := Nat.pow_lt_pow_right (by omega) hq
  exact Nat.or_lt_two_pow (n := 64) hc h

set_option maxHeartbeats 2000000 in
set_option maxRecDepth 100000 in
theorem psi2_mid (n c q : Nat) (hn : n ≤ 64) (hq : q < n) (hc : Hid (c < 18446744073709551616)) (step1 step2 : Int) (w : World) (hg : 0 < w.heap.size) (hT : Hid (TabAt w))
    (HL : Hid (Pl.lw c n ≠ 0)) (HL2 : Hid (Pl.lw (c ||| 2 ^ q) n ≠ 0)) :
    Calls Tryd.prog 6 #[.int .i64 n, .int .u64 c, .int .i64 ((q : Int) + 1), .int .i64 step1, .int .i64 step2] w fun e w' => e = .returned (.bool true) ∧ Below w.heap.size w w' := by
  have h0 : ((Pl.lw c n : Int) == 0) = false := by have := HL.out; rw [beq_eq_false_iff_ne]; omega
  have h1 : ((Pl.lw (c ||| 2 ^ q) n : Int) == 0) = false := by have := HL2.out; rw [beq_eq_false_iff_ne]; omega
  have hc2 : Hid (c ||| 2 ^ q < 18446744073709551616) := or_lt c q hc.out (by omega)
  go_enter Tryd.func6, Tryd.ntmps6
  go_wp2_with fail
  refine (b1Live_two n c hn hc _).mono ?_
  rintro e w2 ⟨rfl, rfl⟩
  go_wp2_with fail
  rw [or_val c q hc.out (by omega)]
  refine (b1Live_two n (c ||| 2 ^ q) hn hc2 _).mono ?_
  rintro e w2 ⟨rfl, rfl⟩
  obtain ⟨c2, hc2e⟩ : ∃ c2, c2 = c ||| 2 ^ q := ⟨_, rfl⟩
  rw [← hc2e] at h1 hc2 HL2 ⊢
  have HE : Hid (c2 = c ||| 2 ^ q) := hc2e
  clear hc2e
  go_wp2_with (go_at_call 13; refine (newPsi_any n hn _).mono ?_; rintro e w2 ⟨rfl, rfl⟩)
  have hR : CRel w w.heap.size n c 0 (w.alloc (.cells (psiC n 0 false (.pointer none) (.pointer none) .nilIface) 56)) :=
    ⟨⟨false, by rw [Nat.pow_zero, Nat.mod_one]; exact blk_new _ _ _⟩, (Below.refl _ _).alloc (Nat.le_refl _) _⟩
  go_loopw [16] (fun p wr => ∃ k : Nat, k ≤ 64 ∧ p = .int .i64 ((k : Int) + 1) ∧ CRel w w.heap.size n c k wr) (fun p _ => 65 - (intOf p).toNat)
  case atStart => exact ⟨0, by omega, rfl, hR⟩
  case round =>
    obtain ⟨k, hk, rfl, hC⟩ := hrel
    clear hR
    by_cases hlt : k < 64
    · by_cases hb : c.testBit k = true
      · have ht := bit1_yes c k hc.out hb
        have HB : Hid (c.testBit k = true) := hb
        clear hb
        obtain ⟨sg, hblk⟩ := hC.1
        have HM : Hid (c % 2 ^ k < 18446744073709551616) := mod_lt64 c k hc.out
        have HBk : Hid (Blk wr w.heap.size (psiC n (c % 2 ^ k) sg (.pointer none) (.pointer none) .nilIface) 56) := hblk
        clear hblk
        go_wp2_with (go_at_call 14; refine (psiCrash_any _ n _ k hn hlt HM _ sg _ _ _ HBk).mono ?_; rintro e w3 ⟨rfl, hx, hgr⟩)
        go_roundw
        case rel => exact ⟨k + 1, by omega, by go_num, hC.hit (Nat.le_refl _) HB.out hx hgr⟩
        case measure => simp [intOf]; omega
      · have hb' : c.testBit k = false := by simpa using hb
        have ht := bit1_no c k hc.out hb'
        have HB : Hid (c.testBit k = false) := hb'
        clear hb hb'
        go_wp2
        go_roundw
        case rel => exact ⟨k + 1, by omega, by go_num, hC.miss HB.out⟩
        case measure => simp [intOf]; omega
    · have e : k = 64 := by omega
      subst e
      obtain ⟨⟨sg, hblk⟩, hbel⟩ := hC
      rw [mod_all c hc.out] at hblk
      have HBk : Hid (Blk wr w.heap.size (psiC n c sg (.pointer none) (.pointer none) .nilIface) 56) := hblk
      clear hblk
      have HT : Hid (TabAt wr) := hT.out.below hg hbel
      have HNE : Hid (Pl.ml (Pl.lv c n) ≠ []) := Pl.ml_ne c n hn HL.out
      have HS : Hid (Pl.lv c n < 18446744073709551616) := Pl.lv_lt c n hn
      have HNE2 : Hid (Pl.ml (Pl.lv c2 n) ≠ []) := Pl.ml_ne c2 n hn HL2.out
      have HS2 : Hid (Pl.lv c2 n < 18446744073709551616) := Pl.lv_lt c2 n hn
      have hBw : w.heap.size < wr.heap.size := HBk.out.lt
      clear h0 h1
      go_wp2_with fail
      -- a
      refine (zzSettled_new w.heap.size n c step1 hn hc HL wr hg HT sg HBk).mono ?_
      rintro e w4 ⟨b, v, pr, st, rfl, hb, hblk, hown, hps, hgr⟩
      obtain ⟨g, cap, rfl⟩ := owns_shape hown HNE.out
      have hb4 : Below w.heap.size w w4 := below_grown hbel hgr hbel.size (Nat.le_refl _)
      have A5 : Hid (Ans wr.heap.size (Pl.lv c n) (Pl.lw c n) w4.heap.size b g cap (w4.alloc (.cells #[.pointer (some ⟨b, 0, none⟩), .string ByteArray.empty] 44))) :=
        ⟨blk_new _ _ _, hblk.alloc _, hown.alloc _⟩
      have B5 : Hid (Below w.heap.size w (w4.alloc (.cells #[.pointer (some ⟨b, 0, none⟩), .string ByteArray.empty] 44))) := hb4.alloc hb4.size _
      have P5 : Hid (Blk (w4.alloc (.cells #[.pointer (some ⟨b, 0, none⟩), .string ByteArray.empty] 44)) w.heap.size (psiC n c sg pr st (.iface 44 (.agg #[.pointer (some ⟨b, 0, none⟩), .string ByteArray.empty]))) 56) := hps.alloc _
      have hz4 := hgr.size
      clear hblk hown hps hgr hb4 hbel HBk HT
      go_wp2_with fail
      -- b
      refine (zzSettled_old w.heap.size n c b step2 _ sg pr st P5).mono ?_
      rintro e w6 ⟨rfl, hb6⟩
      have hz6 := hb6.size
      rw [World.size_alloc] at hz6
      have A6 : Hid (Ans wr.heap.size (Pl.lv c n) (Pl.lw c n) w4.heap.size b g cap w6) := A5.out.below hb6
      have B6 : Hid (Below w.heap.size w w6) := B5.out.trans (hb6.mono B5.out.size)
      have P6 : Hid (Blk w6 w.heap.size (psiC n c sg pr st (.iface 44 (.agg #[.pointer (some ⟨b, 0, none⟩), .string ByteArray.empty]))) 56) := P5.out.below hb6 P5.out.lt
      clear hb6 A5 B5 P5
      have A7 : Hid (Ans wr.heap.size (Pl.lv c n) (Pl.lw c n) w4.heap.size b g cap (w6.alloc (.cells #[.pointer (some ⟨b, 0, none⟩), .string ByteArray.empty] 44))) := A6.out.alloc _
      have C7 : Hid (Ans wr.heap.size (Pl.lv c n) (Pl.lw c n) w6.heap.size b g cap (w6.alloc (.cells #[.pointer (some ⟨b, 0, none⟩), .string ByteArray.empty] 44))) :=
        ⟨blk_new _ _ _, A6.out.pair.alloc _, A6.out.own.alloc _⟩
      have B7 : Hid (Below w.heap.size w (w6.alloc (.cells #[.pointer (some ⟨b, 0, none⟩), .string ByteArray.empty] 44))) := B6.out.alloc B6.out.size _
      have P7 : Hid (Blk (w6.alloc (.cells #[.pointer (some ⟨b, 0, none⟩), .string ByteArray.empty] 44)) w.heap.size (psiC n c sg pr st (.iface 44 (.agg #[.pointer (some ⟨b, 0, none⟩), .string ByteArray.empty]))) 56) := P6.out.alloc _
      clear A6 B6 P6
      go_wp2_with fail
      -- the crash
      refine (psiCrash_any w.heap.size n c q hn (by omega) hc _ sg _ _ _ P7).mono ?_
      rintro e w8 ⟨rfl, ⟨sg8, hps8⟩, hg8⟩
      have hz8 := hg8.size
      rw [World.size_alloc] at hz8
      have A8 : Hid (Ans wr.heap.size (Pl.lv c n) (Pl.lw c n) w4.heap.size b g cap w8) := A7.out.grown hg8 (by omega) (by omega) hBw
      have C8 : Hid (Ans wr.heap.size (Pl.lv c n) (Pl.lw c n) w6.heap.size b g cap w8) := C7.out.grown hg8 (by omega) (by omega) hBw
      have B8 : Hid (Below w.heap.size w w8) := below_grown B7.out hg8 B7.out.size (Nat.le_refl _)
      rw [← HE.out] at hps8
      have P8 : Hid (Blk w8 w.heap.size (psiC n c2 sg8 (.pointer none) (.pointer none) .nilIface) 56) := hps8
      have T8 : Hid (TabAt w8) := hT.out.below hg B8.out
      clear hps8 hg8 A7 C7 B7 P7
      go_wp2_with fail
      -- d
      refine (zzSettled_new w.heap.size n c2 step2 hn hc2 HL2 w8 hg T8 sg8 P8).mono ?_
      rintro e w9 ⟨b', v', pr', st', rfl, hb', hblk', hown', _, hg9⟩
      obtain ⟨g', cap', rfl⟩ := owns_shape hown' HNE2.out
      have hz9 := hg9.size
      have A9 := A8.out.grown hg9 (by omega) (by omega) hBw
      have C9 := C8.out.grown hg9 (by omega) (by omega) hBw
      have B9 := below_grown B8.out hg9 B8.out.size (Nat.le_refl _)
      have HB9 : Hid (Below w.heap.size w w9) := B9
      have k1 : w9.cell? ⟨w4.heap.size, 0, none⟩ = some (.pointer (some ⟨b, 0, none⟩)) := A9.loc.cell 0 rfl
      have k2 : w9.cell? ⟨w4.heap.size, 1, none⟩ = some (.string ByteArray.empty) := A9.loc.cell 1 rfl
      have k3 : w9.cell? ⟨w6.heap.size, 0, none⟩ = some (.pointer (some ⟨b, 0, none⟩)) := C9.loc.cell 0 rfl
      have k4 : w9.cell? ⟨w6.heap.size, 1, none⟩ = some (.string ByteArray.empty) := C9.loc.cell 1 rfl
      have k5 : w9.cell? ⟨b, 0, none⟩ = some (.int .i64 (Pl.lw c n)) := A9.pair.cell 0 rfl
      have k6 : w9.cell? ⟨b, 1, none⟩ = some (.slice (some ⟨g, 0, none⟩) (Pl.ml (Pl.lv c n)).length cap) := A9.pair.cell 1 rfl
      have k7 : w9.cell? ⟨b', 0, none⟩ = some (.int .i64 (Pl.lw c2 n)) := hblk'.cell 0 rfl
      have k8 : w9.cell? ⟨b', 1, none⟩ = some (.slice (some ⟨g', 0, none⟩) (Pl.ml (Pl.lv c2 n)).length cap') := hblk'.cell 1 rfl
      have l1 : w4.heap.size < w9.heap.size := A9.loc.lt
      have l2 : w6.heap.size < w9.heap.size := C9.loc.lt
      have l3 : b < w9.heap.size := A9.pair.lt
      have l4 : b' < w9.heap.size := hblk'.lt
      have HO : Hid (w9.ownsRow wr.heap.size 3 1 (.slice (some ⟨g, 0, none⟩) (Pl.ml (Pl.lv c n)).length cap) (Pl.ml (Pl.lv c n)).length (cells (Pl.ml (Pl.lv c n)))) := A9.own
      have HO' : Hid (w9.ownsRow w8.heap.size 3 1 (.slice (some ⟨g', 0, none⟩) (Pl.ml (Pl.lv c2 n)).length cap') (Pl.ml (Pl.lv c2 n)).length (cells (Pl.ml (Pl.lv c2 n)))) := hown'
      clear hblk' hown' hg9 A8 C8 B8 P8 T8 A9 C9 B9 hz4 hz6 hz8 hz9 hb hb' hBw
      go_wp2_with fail
      refine (same_two _ HS _ wr.heap.size _ (HO.out.alloc _) HNE).mono ?_
      rintro e w10 ⟨rfl, rfl⟩
      go_wp2_with fail
      refine (same_two _ HS _ wr.heap.size _ (HO.out.alloc _) HNE).mono ?_
      rintro e w10 ⟨rfl, rfl⟩
      go_wp2_with fail
      refine (same_two _ HS2 _ w8.heap.size _ (HO'.out.alloc _) HNE2).mono ?_
      rintro e w10 ⟨rfl, rfl⟩
      go_wp2
      go_ret
      exact ⟨rfl, HB9.out.alloc HB9.out.size _⟩

set_option maxHeartbeats 1000000 in
set_option maxRecDepth 100000 in
theorem psi2_out (n c p step1 step2 : Int) (h : n < 1 ∨ 64 < n) (w : World) :
    Calls Tryd.prog 6 #[.int .i64 n, .int .u64 c, .int .i64 p, .int .i64 step1, .int .i64 step2] w fun e w' => e = .returned (.bool true) ∧ Below w.heap.size w w' := by
  rcases h with h | h
  · go_enter Tryd.func6, Tryd.ntmps6
    go_wp2
    go_ret
    exact ⟨rfl, Below.refl _ _⟩
  · have h1 : ¬ n < 1 := by omega
    go_enter Tryd.func6, Tryd.ntmps6
    go_wp2
    go_ret
    exact ⟨rfl, Below.refl _ _⟩

set_option maxHeartbeats 1000000 in
set_option maxRecDepth 100000 in
theorem psi2_p (n c p step1 step2 : Int) (h1 : 1 ≤ n) (h2 : n ≤ 64) (h : p < 1 ∨ n < p) (w : World) :
    Calls Tryd.prog 6 #[.int .i64 n, .int .u64 c, .int .i64 p, .int .i64 step1, .int .i64 step2] w fun e w' => e = .returned (.bool true) ∧ Below w.heap.size w w' := by
  rcases h with h | h
  · go_enter Tryd.func6, Tryd.ntmps6
    go_wp2
    go_ret
    exact ⟨rfl, Below.refl _ _⟩
  · have h3 : ¬ p < 1 := by omega
    go_enter Tryd.func6, Tryd.ntmps6
    go_wp2
    go_ret
    exact ⟨rfl, Below.refl _ _⟩

set_option maxHeartbeats 1000000 in
set_option maxRecDepth 100000 in
theorem psi2_low (n c q : Nat) (hn : n ≤ 64) (hq : q < n) (hc : Hid (c < 18446744073709551616)) (step1 step2 : Int) (w : World)
    (h : Pl.lw c n = 0 ∨ (Pl.lw c n ≠ 0 ∧ Pl.lw (c ||| 2 ^ q) n = 0)) :
    Calls Tryd.prog 6 #[.int .i64 n, .int .u64 c, .int .i64 ((q : Int) + 1), .int .i64 step1, .int .i64 step2] w fun e w' => e = .returned (.bool true) ∧ Below w.heap.size w w' := by
  have hc2 : Hid (c ||| 2 ^ q < 18446744073709551616) := or_lt c q hc.out (by omega)
  rcases h with h | ⟨h, h'⟩
  · have h0 : ((Pl.lw c n : Int) == 0) = true := by rw [beq_iff_eq]; omega
    clear h
    go_enter Tryd.func6, Tryd.ntmps6
    go_wp2_with fail
    refine (b1Live_two n c hn hc _).mono ?_
    rintro e w2 ⟨rfl, rfl⟩
    go_wp2_with fail
    rw [or_val c q hc.out (by omega)]
    refine (b1Live_two n (c ||| 2 ^ q) hn hc2 _).mono ?_
    rintro e w2 ⟨rfl, rfl⟩
    go_wp2
    go_ret
    exact ⟨rfl, Below.refl _ _⟩
  · have h0 : ((Pl.lw c n : Int) == 0) = false := by rw [beq_eq_false_iff_ne]; omega
    have h1 : ((Pl.lw (c ||| 2 ^ q) n : Int) == 0) = true := by rw [beq_iff_eq]; omega
    clear h h'
    go_enter Tryd.func6, Tryd.ntmps6
    go_wp2_with fail
    refine (b1Live_two n c hn hc _).mono ?_
    rintro e w2 ⟨rfl, rfl⟩
    go_wp2_with fail
    rw [or_val c q hc.out (by omega)]
    refine (b1Live_two n (c ||| 2 ^ q) hn hc2 _).mono ?_
    rintro e w2 ⟨rfl, rfl⟩
    go_wp2
    go_ret
    exact ⟨rfl, Below.refl _ _⟩

theorem psi2_walk (n c p step1 step2 : Int) (hc0 : 0 ≤ c) (hc1 : c < 18446744073709551616) (w : World) (hg : 0 < w.heap.size) (hT : TabAt w) :
    Calls Tryd.prog 6 #[.int .i64 n, .int .u64 c, .int .i64 p, .int .i64 step1, .int .i64 step2] w fun e w' => e = .returned (.bool true) ∧ Below w.heap.size w w' := by
  by_cases h : n < 1 ∨ 64 < n
  · exact psi2_out n c p step1 step2 h w
  · by_cases hp : p < 1 ∨ n < p
    · exact psi2_p n c p step1 step2 (by omega) (by omega) hp w
    · obtain ⟨n, rfl⟩ := Int.eq_ofNat_of_zero_le (show 0 ≤ n by omega)
      obtain ⟨c, rfl⟩ := Int.eq_ofNat_of_zero_le hc0
      obtain ⟨q, hq⟩ := Int.eq_ofNat_of_zero_le (show 0 ≤ p - 1 by omega)
      obtain rfl : p = (q : Int) + 1 := by omega
      have hc : c < 18446744073709551616 := by omega
      by_cases h1 : Pl.lw c n = 0
      · exact psi2_low n c q (by omega) (by omega) hc step1 step2 w (.inl h1)
      · by_cases h2 : Pl.lw (c ||| 2 ^ q) n = 0
        · exact psi2_low n c q (by omega) (by omega) hc step1 step2 w (.inr ⟨h1, h2⟩)
        · exact psi2_mid n c q (by omega) (by omega) hc step1 step2 w hg hT h1 h2

end Go.Proofs.Qxb6609497aDoor
