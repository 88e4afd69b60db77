import Derived.Test.Qxb6609497aDoorW5
namespace Go.Proofs.Qxb6609497aDoor
open Go.RowKit

/-- What holds ahead of round k + 1 of the crashes. -/
def CRel (w : World) (B n c : Nat) (k : Nat) (wr : World) : Prop :=
  (∃ sg, Blk wr B (psiC n (c % 2 ^ k) sg (.pointer none) (.pointer none) .nilIface) 56) ∧ Below w.heap.size w wr

theorem CRel.hit {w : World} {B n c k : Nat} {wr w' : World} (h : CRel w B n c k wr) (hB : w.heap.size ≤ B) (hb : c.testBit k = true) (hx : ∃ sg', Blk w' B (psiC n (c % 2 ^ k ||| 2 ^ k) sg' (.pointer none) (.pointer none) .nilIface) 56) (hg : wr.grownBy w' (some B)) :
    CRel w B n c (k + 1) w' :=
  ⟨by rw [Pl.mod_step, if_pos hb]; exact hx, below_grown h.2 hg h.2.size hB⟩

theorem CRel.miss {w : World} {B n c k : Nat} {wr : World} (h : CRel w B n c k wr) (hb : c.testBit k = false) : CRel w B n c (k + 1) wr :=
  ⟨by rw [Pl.mod_step, if_neg (by simp [hb])]; exact h.1, h.2⟩

theorem mod_lt64 (c k : Nat) (hc : c < 18446744073709551616) : c % 2 ^ k < 18446744073709551616 := Nat.lt_of_le_of_lt (Nat.mod_le _ _) hc
theorem mod_all (c : Nat) (hc : c < 18446744073709551616) : c % 2 ^ 64 = c := Nat.mod_eq_of_lt hc

theorem b1Live_two (n c : Nat) (hn : n ≤ 64) (hc : Hid (c < 18446744073709551616)) (w : World) :
    Calls Tryd.prog 7 #[.int .i64 n, .int .u64 c] w fun e w' => e = .returned (.tuple #[.int .u64 (Pl.lv c n), .int .i64 (Pl.lw c n)]) ∧ w = w' :=
  (b1Live_any n c hn hc w).mono fun _ _ ⟨a, b⟩ => ⟨a, b.symm⟩

theorem same_two (s : Nat) (hs : Hid (s < 18446744073709551616)) (v : Value) (base : Nat) (w : World) (hown : Hid (w.ownsRow base 3 1 v (Pl.ml s).length (cells (Pl.ml s)))) (hne : Hid (Pl.ml s ≠ [])) :
    Calls Tryd.prog 11 #[v, .int .u64 s] w fun e w' => e = .returned (.bool true) ∧ w = w' :=
  (same_any s hs v base w hown hne.out).mono fun _ _ ⟨a, b⟩ => ⟨a, b.symm⟩

theorem owns_shape {w : World} {C : Nat} {v : Value} {l : List Nat} (h : w.ownsRow C 3 1 v l.length (cells l)) (hne : l ≠ []) : ∃ g cap, v = .slice (some ⟨g, 0, none⟩) l.length cap := by
  rcases h.2 with ⟨_, e⟩ | ⟨g, cap, _, e, _⟩
  · exact absurd (List.eq_nil_of_length_eq_zero e) hne
  · exact ⟨g, cap, e⟩

set_option maxHeartbeats 1000000 in
theorem psi1_mid (n c : Nat) (hn1 : 1 ≤ n) (hn : n ≤ 64) (hc : Hid (c < 18446744073709551616)) (step : Int) (w : World) (hg : 0 < w.heap.size) (hT : Hid (TabAt w)) :
    Calls Tryd.prog 5 #[.int .i64 n, .int .u64 c, .int .i64 step] w fun e w' => e = .returned (.bool true) ∧ Below w.heap.size w w' := by
  by_cases hlw : Pl.lw c n = 0
  · have h0 : ((Pl.lw c n : Int) == 0) = true := by rw [beq_iff_eq]; omega
    clear hlw
    go_enter Tryd.func5, Tryd.ntmps5
    go_wp2_with (go_at_call 7; refine (b1Live_two n c hn hc _).mono ?_; rintro e w2 ⟨rfl, rfl⟩)
    go_ret
    exact ⟨rfl, Below.refl _ _⟩
  · have h0 : ((Pl.lw c n : Int) == 0) = false := by rw [beq_eq_false_iff_ne]; omega
    have HL : Hid (Pl.lw c n ≠ 0) := hlw
    clear hlw
    go_enter Tryd.func5, Tryd.ntmps5
    go_wp2_with (first | (go_at_call 7; refine (b1Live_two n c hn hc _).mono ?_; rintro e w2 ⟨rfl, rfl⟩) | (go_at_call 13; refine (newPsi_any n hn _).mono ?_; rintro e w2 ⟨rfl, rfl⟩))
    have hR : CRel w w.heap.size n c 0 (w.alloc (.cells (psiC n 0 false (.pointer none) (.pointer none) .nilIface) 56)) :=
      ⟨⟨false, by rw [Nat.pow_zero, Nat.mod_one]; exact blk_new _ _ _⟩, (Below.refl _ _).alloc (Nat.le_refl _) _⟩
    go_loopw [10] (fun p wr => ∃ k : Nat, k ≤ 64 ∧ p = .int .i64 ((k : Int) + 1) ∧ CRel w w.heap.size n c k wr) (fun p _ => 65 - (intOf p).toNat)
    case atStart => exact ⟨0, by omega, rfl, hR⟩
    case round =>
      obtain ⟨k, hk, rfl, hC⟩ := hrel
      clear hR
      by_cases hlt : k < 64
      · by_cases hb : c.testBit k = true
        · have ht := bit1_yes c k hc.out hb
          have HB : Hid (c.testBit k = true) := hb
          clear hb
          obtain ⟨sg, hblk⟩ := hC.1
          have HM : Hid (c % 2 ^ k < 18446744073709551616) := mod_lt64 c k hc.out
          have HBk : Hid (Blk wr w.heap.size (psiC n (c % 2 ^ k) sg (.pointer none) (.pointer none) .nilIface) 56) := hblk
          clear hblk
          go_wp2_with (go_at_call 14; refine (psiCrash_any _ n _ k hn hlt HM _ sg _ _ _ HBk).mono ?_; rintro e w3 ⟨rfl, hx, hgr⟩)
          go_roundw
          case rel => exact ⟨k + 1, by omega, by go_num, hC.hit (Nat.le_refl _) HB.out hx hgr⟩
          case measure => simp [intOf]; omega
        · have hb' : c.testBit k = false := by simpa using hb
          have ht := bit1_no c k hc.out hb'
          have HB : Hid (c.testBit k = false) := hb'
          clear hb hb'
          go_wp2
          go_roundw
          case rel => exact ⟨k + 1, by omega, by go_num, hC.miss HB.out⟩
          case measure => simp [intOf]; omega
      · have e : k = 64 := by omega
        subst e
        obtain ⟨⟨sg, hblk⟩, hbel⟩ := hC
        rw [mod_all c hc.out] at hblk
        have HBk : Hid (Blk wr w.heap.size (psiC n c sg (.pointer none) (.pointer none) .nilIface) 56) := hblk
        clear hblk
        have HT : Hid (TabAt wr) := hT.out.below hg hbel
        go_wp2_with fail
        refine (zzSettled_new w.heap.size n c step hn hc HL wr hg HT sg HBk).mono ?_
        rintro e w4 ⟨b, v, pr, st, rfl, hb, hblk, hown, _, hgr⟩
        have HNE : Hid (Pl.ml (Pl.lv c n) ≠ []) := Pl.ml_ne c n hn HL.out
        have HS : Hid (Pl.lv c n < 18446744073709551616) := Pl.lv_lt c n hn
        have HBL : Hid (Below w.heap.size w w4) := below_grown hbel hgr hbel.size (Nat.le_refl _)
        obtain ⟨g, cap, rfl⟩ := owns_shape hown HNE.out
        have HO : Hid (w4.ownsRow wr.heap.size 3 1 (.slice (some ⟨g, 0, none⟩) (Pl.ml (Pl.lv c n)).length cap) (Pl.ml (Pl.lv c n)).length (cells (Pl.ml (Pl.lv c n)))) := hown
        have g0 : w4.cell? ⟨b, 0, none⟩ = some (.int .i64 (Pl.lw c n)) := hblk.cell 0 rfl
        have g1 : w4.cell? ⟨b, 1, none⟩ = some (.slice (some ⟨g, 0, none⟩) (Pl.ml (Pl.lv c n)).length cap) := hblk.cell 1 rfl
        have hlb : b < w4.heap.size := hblk.lt
        clear hblk hown hgr hbel HBk HT h0
        go_wp2_with (go_at_call 11; refine (same_two _ HS _ wr.heap.size _ (HO.out.alloc _) HNE).mono ?_; rintro e w5 ⟨rfl, rfl⟩)
        go_ret
        exact ⟨rfl, HBL.out.alloc HBL.out.size _⟩

set_option maxHeartbeats 1000000 in
theorem psi1_out (n : Int) (c step : Int) (h : n < 1 ∨ 64 < n) (w : World) :
    Calls Tryd.prog 5 #[.int .i64 n, .int .u64 c, .int .i64 step] w fun e w' => e = .returned (.bool true) ∧ Below w.heap.size w w' := by
  rcases h with h | h
  · go_enter Tryd.func5, Tryd.ntmps5
    go_wp2
    go_ret
    exact ⟨rfl, Below.refl _ _⟩
  · have h1 : ¬ n < 1 := by omega
    go_enter Tryd.func5, Tryd.ntmps5
    go_wp2
    go_ret
    exact ⟨rfl, Below.refl _ _⟩

theorem psi1_walk (n : Int) (c step : Int) (hc0 : 0 ≤ c) (hc1 : c < 18446744073709551616) (w : World) (hg : 0 < w.heap.size) (hT : TabAt w) :
    Calls Tryd.prog 5 #[.int .i64 n, .int .u64 c, .int .i64 step] w fun e w' => e = .returned (.bool true) ∧ Below w.heap.size w w' := by
  by_cases h : n < 1 ∨ 64 < n
  · exact psi1_out n c step h w
  · obtain ⟨n, rfl⟩ := Int.eq_ofNat_of_zero_le (show 0 ≤ n by omega)
    obtain ⟨c, rfl⟩ := Int.eq_ofNat_of_zero_le hc0
    exact psi1_mid n c (by omega) (by omega) (show c < 18446744073709551616 by omega) step w hg hT

end Go.Proofs.Qxb6609497aDoor
