import Derived.Test.Qxb6609497aDoorRows
import Derived.WalkKit
import Derived.WalkSpells
import Derived.WalkLawsBesides
import Derived.Laws.Bits128
import Derived.Laws.BitsAllLaws
import Derived.Laws.Bits64b
import Derived.BigQuiet
import Derived.Deep.QuietTactic
import Derived.Test.Qxb6609497aDoorPlain
namespace Go.Proofs.Qxb6609497aDoor
open Go.RowKit

theorem ret_int {k : IntKind} {a b : Int} (h : a = b) : Ending.returned (.int k a) = .returned (.int k b) := by rw [h]
theorem ret_bool {a b : Bool} (h : a = b) : Ending.returned (.bool a) = .returned (.bool b) := by rw [h]

theorem pow_cast (n : Nat) : ((2 : Int) ^ n) = ((2 ^ n : Nat) : Int) := by simp

theorem wrap_pow (n : Nat) (hn : n < 64) : IntKind.u64.wrap ((2 : Int) ^ n) = ((2 ^ n : Nat) : Int) := by
  have h : 2 ^ n < 2 ^ 64 := Nat.pow_lt_pow_right (by omega) hn
  rw [IntKind.wrap_u64, pow_cast]
  generalize 2 ^ n = q at h
  omega

theorem upTo_val (n : Nat) (hn : n ≤ 64) : IntKind.u64.wrap (IntKind.u64.wrap (2 ^ n) - 1) = ((2 ^ n - 1 : Nat) : Int) := by
  have hp : 0 < 2 ^ n := Nat.two_pow_pos n
  by_cases h : n = 64
  · subst h; decide
  · have h64 : 2 ^ n < 2 ^ 64 := Nat.pow_lt_pow_right (by omega) (by omega)
    rw [wrap_pow n (by omega), IntKind.wrap_u64]; omega

theorem has_val (s n : Nat) (hs : s < 18446744073709551616) (hn : n < 64) : (bits BinOp.and IntKind.u64 (↑s) (IntKind.u64.wrap (2 ^ n)) != 0) = s.testBit n := by
  have h : 2 ^ n < 2 ^ 64 := Nat.pow_lt_pow_right (by omega) hn
  have hp : 0 < 2 ^ n := Nat.two_pow_pos n
  rw [wrap_pow n hn, bits_and_u64_nat s _ hs (by omega), nat_bit]
  cases hb : s.testBit n
  · have : ¬ s / 2 ^ n % 2 = 1 := fun h => by rw [(Pl.bit_ask s n).1 h] at hb; cases hb
    rw [show s / 2 ^ n % 2 = 0 from by omega]; simp
  · rw [(Pl.bit_ask s n).2 hb, bne_iff_ne]; omega

theorem ones_end (X : Int) : ∃ r : Nat, r ≤ 127 ∧ Ending.returned (.int .i64 (bits .and .i64 X 127)) = .returned (.int .i64 r) :=
  ⟨(X % 128).toNat, by omega, ret_int (by rw [i64_and127]; omega)⟩

set_option maxHeartbeats 400000 in
theorem upTo_any (n : Nat) (hn : n ≤ 64) (w : World) :
    Calls Tryd.prog 18 #[.int .i64 n] w fun e w' => e = .returned (.int .u64 ((2 ^ n - 1 : Nat) : Int)) ∧ w' = w := by
  go_enter Tryd.func18, Tryd.ntmps18
  go_wp2
  go_ret
  exact ⟨ret_int (upTo_val n hn), rfl⟩

set_option maxHeartbeats 400000 in
theorem has_any (s : Nat) (hs : s < 18446744073709551616) (n : Nat) (hn : n < 64) (w : World) :
    Calls Tryd.prog 19 #[.int .u64 s, .int .i64 ((n : Int) + 1)] w fun e w' => e = .returned (.bool (s.testBit n)) ∧ w' = w := by
  have HS : Hid (s < 18446744073709551616) := hs
  clear hs
  go_enter Tryd.func19, Tryd.ntmps19
  go_wp2
  go_ret
  exact ⟨ret_bool (has_val s n HS.out hn), rfl⟩

set_option maxHeartbeats 400000 in
theorem ones_any (s : Nat) (w : World) :
    Calls Tryd.prog 29 #[.int .u64 s] w fun e w' => (∃ r : Nat, r ≤ 127 ∧ e = .returned (.int .i64 r)) ∧ w' = w := by
  go_enter Tryd.func29, Tryd.ntmps29
  go_wp2
  go_ret
  exact ⟨ones_end _, rfl⟩

/-! TrailingZeros64 -/
def TabAt (w : World) : Prop := ∀ j, j < Lib.deBruijn64tab.length → w.cell? ⟨0, j, none⟩ = some (.int .u8 (Lib.deBruijn64tab.getD j 0 : Nat))

set_option maxHeartbeats 1000000 in
theorem tz_core (x k idx : Nat) (w : World) (hx0 : ((x : Int) == 0) = false)
    (key : IntKind.u64.wrap (bits BinOp.and IntKind.u64 (x : Int) (IntKind.u64.wrap (-(x : Int))) * 285870213051353865) / 288230376151711744 = (idx : Int))
    (hi : idx < 64) (hk : k < 64) (hcell : w.cell? ⟨0, idx, none⟩ = some (.int .u8 k)) :
    Calls Tryd.prog 30 #[.int .u64 x] w fun e w' => e = .returned (.int .i64 k) ∧ w' = w := by
  go_enter Tryd.func30, Tryd.ntmps30
  go_wp2_with (simp only [key])
  go_ret
  exact ⟨rfl, rfl⟩

theorem tz_key (x a : Nat) (hx : x < 18446744073709551616) (hx0 : x ≠ 0) (hlow : x &&& (18446744073709551616 - x) = a) :
    IntKind.u64.wrap (bits BinOp.and IntKind.u64 (x : Int) (IntKind.u64.wrap (-(x : Int))) * 285870213051353865) / 288230376151711744 = ((a * 285870213051353865 % 18446744073709551616 / 288230376151711744 : Nat) : Int) := by
  have e1 : IntKind.u64.wrap (-(x : Int)) = ((18446744073709551616 - x : Nat) : Int) := by rw [IntKind.wrap_u64]; omega
  rw [e1, bits_and_u64_nat x _ hx (by omega), hlow, IntKind.wrap_u64]
  omega

theorem tz_any (x : Nat) (hx : x < 18446744073709551616) (hx0 : x ≠ 0) (w : World) (hT : TabAt w) :
    Calls Tryd.prog 30 #[.int .u64 x] w fun e w' => e = .returned (.int .i64 (Lib.ctz 64 x)) ∧ w' = w := by
  obtain ⟨hlow, hk⟩ := Lib.lowest_bit 64 x hx0 hx
  obtain ⟨hi, htab⟩ := Lib.deBruijn64_at _ hk
  have hcell := hT _ hi
  rw [htab] at hcell
  exact tz_core x _ _ w (by simp; omega) (tz_key x _ hx hx0 hlow) hi hk hcell

theorem live_val (n c : Nat) (hn : n ≤ 64) (hc : c < 18446744073709551616) : bits BinOp.andNot IntKind.u64 ((2 ^ n - 1 : Nat) : Int) (c : Int) = (Pl.lv c n : Int) := by
  have h : 2 ^ n ≤ 2 ^ 64 := Nat.pow_le_pow_right (by omega) hn
  rw [u64_andNot_nat _ _ (by omega) hc, Pl.live_eq c n hn hc]

set_option maxHeartbeats 400000 in
theorem live_any (B n c : Nat) (hn : n ≤ 64) (w : World) (hc0 : w.cell? ⟨B, 0, none⟩ = some (.int .i64 n)) (hc1 : w.cell? ⟨B, 1, none⟩ = some (.int .u64 c)) (hc : Hid (c < 18446744073709551616)) :
    Calls Tryd.prog 22 #[.pointer (some ⟨B, 0, none⟩)] w fun e w' => e = .returned (.int .u64 (Pl.lv c n)) ∧ ∃ k, w' = w.drewN k := by
  go_enter Tryd.func22, Tryd.ntmps22
  go_wp2_with fail
  go_quiet ((go_at_call 18; exact Calls.quiet_of_same (upTo_any _ hn _)))
  go_wp2
  go_ret
  exact ⟨ret_int (live_val n c hn hc.out), _, rfl⟩

theorem Tryd.info3 : (Tryd.prog.info? 3).map (fun i => (i.zero, i.size, i.bytes)) = some (some (.int .i64 0), 1, 8) := by kernel_rfl

theorem strike_val (x : Nat) (h0 : x ≠ 0) (hx : x < 18446744073709551616) : bits BinOp.and IntKind.u64 (x : Int) (IntKind.u64.wrap ((x : Int) - 1)) = ((x &&& (x - 1) : Nat) : Int) := by
  have e : IntKind.u64.wrap ((x : Int) - 1) = ((x - 1 : Nat) : Int) := by rw [IntKind.wrap_u64]; omega
  rw [e, bits_and_u64_nat x _ hx (by omega)]

def cells (l : List Nat) : List Value := l.map fun p => Value.int .i64 (p : Nat)

/-- What holds at the head of each round of 'members'. -/
def MRel (s : Nat) (w0 : World) (s' : Nat) (acc : List Nat) (v : Value) (wr : World) : Prop :=
  s' < 18446744073709551616 ∧ acc ++ Pl.ml s' = Pl.ml s ∧ wr.ownsRow w0.heap.size 3 1 v acc.length (cells acc) ∧ Below w0.heap.size w0 wr

theorem TabAt.below {w w' : World} (h : TabAt w) (hg : 0 < w.heap.size) (hb : Below w.heap.size w w') : TabAt w' :=
  fun j hj => (hb.cell (p := ⟨0, j, none⟩) hg).trans (h j hj)

theorem MRel.len {s : Nat} {w0 : World} {s' : Nat} {acc : List Nat} {v : Value} {wr : World} (h : MRel s w0 s' acc v wr) : acc.length ≤ 64 := by
  have := Pl.mlk_len s 64
  have e := congrArg List.length h.2.1
  simp at e
  unfold Pl.ml at e
  omega

theorem MRel.step {s : Nat} {w0 : World} {s' : Nat} {acc : List Nat} {v v' : Value} {wr w1 : World} (h : MRel s w0 s' acc v wr) (h0 : s' ≠ 0) (o : Obj)
    (hown : w1.ownsRow w0.heap.size 3 1 v' (acc.length + 1) (cells acc ++ [.int .i64 ((Lib.ctz 64 s' : Int) + 1)])) (hg : (wr.alloc o).grownBy w1 v.ownBlock) :
    MRel s w0 (s' &&& (s' - 1)) (acc ++ [Lib.ctz 64 s' + 1]) v' w1 := by
  obtain ⟨h1, h2, h3, h4⟩ := h
  have hst := (Pl.ml_step s' h0 h1).1
  have hlt := Pl.strike_lt s' h0
  refine ⟨by omega, by rw [← h2, hst]; simp, ?_, ?_⟩
  · simpa [cells] using hown
  · exact (h4.alloc h4.size o).grown hg (by have := h4.size; simp; omega) (fun k hk => (h3.lt k hk).1)

set_option maxHeartbeats 1000000 in
theorem members_any (s : Nat) (hs : Hid (s < 18446744073709551616)) (w : World) (hg : 0 < w.heap.size) (hT : Hid (TabAt w)) :
    Calls Tryd.prog 25 #[.int .u64 s] w fun e w' => ∃ v, e = .returned v ∧ w'.ownsRow w.heap.size 3 1 v (Pl.ml s).length (cells (Pl.ml s)) ∧ Below w.heap.size w w' := by
  obtain ⟨i0, hi, hz0, hz1, hz2⟩ := info_parts Tryd.info3
  go_enter Tryd.func25, Tryd.ntmps25
  go_wp2_with fail
  refine (ones_any _ _).mono ?_
  rintro e w' ⟨⟨r, hr, rfl⟩, rfl⟩
  go_wp2_with (first | (at_make; refine wpList_make_own _ rfl _ _ 30 rfl w'.heap.size 3 i0 (.int .i64 0) 1 Tryd.underlying30 hi hz0 hz1 _ _ _ r rfl rfl rfl ?b1 ?b2 ?b3 ?_) | go_in)
  case b1 => rw [hz2]; omega
  case b2 => unfold maxLen; omega
  case b3 => exact Nat.le_refl _
  intro w1 hown1 hgrow1
  have hR : MRel s w' s [] (.slice (some ⟨w'.heap.size, 0, none⟩) 0 r) w1 :=
    ⟨hs.out, rfl, hown1, (Below.refl _ _).grown hgrow1 (Nat.le_refl _) (fun k hk => by cases hk)⟩
  clear hown1 hgrow1 hs
  go_wp2_with fail
  go_loopw [0, 3] (fun sv v wr => ∃ (s' : Nat) (acc : List Nat), sv = .int .u64 s' ∧ MRel s w' s' acc v wr) (fun sv _ _ => (intOf sv).toNat)
  case atStart => exact ⟨s, [], rfl, hR⟩
  case round =>
    obtain ⟨s', acc, rfl, hM⟩ := hrel
    clear hR
    by_cases h0 : s' = 0
    · subst h0
      go_wp2
      go_ret
      have e : acc = Pl.ml s := by have := hM.2.1; rwa [Pl.ml_zero, List.append_nil] at this
      subst e
      exact ⟨_, rfl, hM.2.2.1, hM.2.2.2⟩
    · have hb0 : ((s' : Int) != 0) = true := by rw [bne_iff_ne]; omega
      have HT : Hid (TabAt wr) := hT.out.below hg hM.2.2.2
      have hz := (Pl.ml_step s' h0 hM.1).2
      have hl := hM.len
      have HS : Hid (s' < 18446744073709551616) := hM.1
      go_wp2_with (first | (go_at_call 30; refine (tz_any s' hM.1 h0 _ HT.out).mono ?_; rintro e w2 ⟨rfl, rfl⟩) | (at_builtin; refine wpList_append_own _ rfl _ _ 30 rfl w'.heap.size 3 i0 (.int .i64 0) 1 8 Tryd.underlying30 hi hz0 hz1 hz2 rfl (by decide) _ _ _ rfl (hM.2.2.1.alloc _) ⟨_, 0, none⟩ 1 1 [.int .i64 ((Lib.ctz 64 s' : Int) + 1)] rfl rfl ?c1 ?c2 ?c3 ?c4 ?c5 ?_))
      case c1 =>
        intro j u hj
        match j, hj with
        | 0, hj => simp at hj; subst hj; simp [Addr.add]
      case c2 => intro u hu; simp at hu; subst hu; rfl
      case c3 => unfold maxLen; omega
      case c4 => omega
      case c5 => have := hM.2.2.2.size; simp; omega
      intro v' w3 hown' hgrow _
      have R := hM.step h0 _ hown' hgrow
      clear hown' hgrow hM HT
      go_wp2
      go_roundw
      case rel => exact ⟨_, _, by rw [strike_val s' h0 HS.out], R⟩
      case measure =>
        have := Pl.strike_lt s' h0
        simp only [intOf]
        rw [strike_val s' h0 HS.out]
        omega
