/-
  THE WALK of FnNewEventsKeepsItsOwnKey.
-/
import Derived.Test.Qxb6609525aW4
namespace Go.Proofs.Qxb6609525a
open Go.RowKit

set_option maxRecDepth 100000 in
theorem keeps_long (u : ByteArray) (a : Option Addr) (n cap : Nat) (lim : Int) (hu : u.size ≤ maxLen) (hn : n ≤ maxLen) (h : ¬ u.size + n ≤ 1048576) (w : World) :
    Calls Try.prog 3 #[.string u, .slice a n cap, .int .i64 lim] w fun e w' => e = .returned (.bool true) ∧ Below w.heap.size w w' := by
  go_enter Try.func3, Try.ntmps3
  go_wp2_with fail
  refine (zz5_no u a n cap lim hu hn h w).mono ?_
  rintro e w' ⟨rfl, rfl⟩
  go_wp2
  go_ret
  exact ⟨rfl, Below.refl _ _⟩

/-- What the law holds once its events are made: the events, their own key, the caller's buffer. -/
def St (w : World) (C E kb mb : Nat) (u : ByteArray) (lim : Int) (a1 a3 : Option Addr) (c3 n : Nat) (f f1 : Nat → Int) (w' : World) : Prop :=
  Below w.heap.size w w' ∧ Ev w' E kb mb u lim (.slice a3 n c3) ∧ OW w' C a3 n f ∧ Buf w' w.heap.size C a1 n f1

theorem St.below {w w1 w2 : World} {C E kb mb c3 n : Nat} {u : ByteArray} {lim : Int} {a1 a3 : Option Addr} {f f1 : Nat → Int} (h : St w C E kb mb u lim a1 a3 c3 n f f1 w1) (hb : Below w1.heap.size w1 w2) : St w C E kb mb u lim a1 a3 c3 n f f1 w2 :=
  ⟨h.1.trans (hb.mono h.1.size), h.2.1.below hb (Nat.le_refl _), h.2.2.1.below hb (Nat.le_refl _), h.2.2.2.below hb (Nat.le_refl _)⟩

set_option maxHeartbeats 2000000 in
set_option maxRecDepth 100000 in
theorem keeps_mid (u : ByteArray) (a : Option Addr) (n cap : Nat) (lim : Int) (f : Nat → Int) (h : u.size + n ≤ 1048576) (hc : Hid (a = none → cap = 0)) (w : World) (HS : Hid (SL w a n f)) :
    Calls Try.prog 3 #[.string u, .slice a n cap, .int .i64 lim] w fun e w' => e = .returned (.bool true) ∧ Below w.heap.size w w' := by
  go_enter Try.func3, Try.ntmps3
  go_wp2_with fail
  refine (zz5_ok u a n cap lim h w).mono ?_
  rintro e w' ⟨rfl, rfl⟩
  go_wp2_with fail
  refine (clone_any a n cap f (by omega) hc.out w HS).mono ?_
  rintro e w1 ⟨a1, c1, rfl, hc1, HO1, hb1⟩
  have HC1 : Hid (a1 = none → c1 = 0) := hc1
  have HB1 : Hid (Below w.heap.size w w1) := hb1
  clear hc1 hb1
  go_wp2_with fail
  refine (newKey_any a1 n c1 w1).mono ?_
  rintro e w2 ⟨rfl, HK2, hb2⟩
  have HB2 : Hid (Below w.heap.size w w2) := HB1.out.trans (hb2.mono HB1.out.size)
  have HO2 : Hid (OW w2 w.heap.size a1 n f) := HO1.out.below hb2 (Nat.le_refl _)
  clear hb2 HO1
  go_wp2_with fail
  refine (zzNew_any w1.heap.size n c1 a1 f u lim (by omega) HC1.out w2 HK2 HO2.out.sl).mono ?_
  rintro e w3 ⟨E, kb, mb, a3, c3, rfl, HE3, HO3, hb3⟩
  have HB3 : Hid (Below w.heap.size w w3) := HB2.out.trans (hb3.mono HB2.out.size)
  have HU3 : Hid (Buf w3 w.heap.size w2.heap.size a1 n f) := (HO2.out.buf (Nat.le_refl _)).below hb3 (Nat.le_refl _)
  have HT3 : Hid (St w w2.heap.size E kb mb u lim a1 a3 c3 n f f w3) := ⟨HB3.out, HE3.out, HO3.out, HU3.out⟩
  clear hb3 HK2 HO2 HC1 HB3 HO3 HU3 HB1 HB2
  obtain ⟨C, hCe⟩ : ∃ C, C = w2.heap.size := ⟨_, rfl⟩
  rw [← hCe] at HT3
  clear hCe
  go_wp2_with fail
  refine (url_any E kb mb u lim _ w3 HE3).mono ?_
  rintro e w' ⟨rfl, rfl⟩
  go_wp2_with fail
  refine (limit_any E kb mb u lim _ w3 HE3).mono ?_
  rintro e w' ⟨rfl, rfl⟩
  go_wp2_with fail
  refine (textsNil_any E kb mb u lim _ w3 HE3).mono ?_
  rintro e w' ⟨rfl, rfl⟩
  go_wp2_with fail
  refine (textCount_any E kb mb u lim _ w3 HE3).mono ?_
  rintro e w' ⟨rfl, rfl⟩
  go_wp2_with fail
  refine (evKey_any E kb mb u lim a3 n c3 w3 HE3).mono ?_
  rintro e w4 ⟨rfl, hb4⟩
  have HT4 : Hid (St w C E kb mb u lim a1 a3 c3 n f f w4) := HT3.out.below hb4
  clear hb4 HT3 HE3
  go_wp2_with fail
  refine (same_any a3 a n c3 cap f (by omega) w4 HT4.out.2.2.1.sl (HS.out.below HT4.out.1 (Nat.le_refl _))).mono ?_
  rintro e w5 ⟨rfl, hb5⟩
  have HT5 : Hid (St w C E kb mb u lim a1 a3 c3 n f f w5) := HT4.out.below hb5
  clear hb5 HT4
  go_wp2
  go_loopw [9] (fun i w' => ∃ k : Nat, k ≤ n ∧ i = .int .i64 k ∧ Hid (∃ f1, St w C E kb mb u lim a1 a3 c3 n f f1 w')) (fun i _ => n - (intOf i).toNat)
  case atStart => exact ⟨0, by omega, rfl, ⟨f, HT5.out⟩⟩
  case round =>
    obtain ⟨k, hk, rfl, HR⟩ := hrel
    by_cases hlt : k < n
    · obtain ⟨f1, hT1, hT2, hT3, hT4⟩ := HR.out
      rcases hT4 with ⟨_, h0⟩ | ⟨g, hg1, hg2, rfl, hrow⟩
      · omega
      have x1 := hrow.cell k hlt
      have x2 := hrow.free k
      have HN : Hid (∃ f1, St w C E kb mb u lim (some ⟨g, 0, none⟩) a3 c3 n f f1 (wr.setCell ⟨g, k, none⟩ (.int .u8 0))) :=
        ⟨_, hT1.setCell hg1 _, hT2.far hrow _, hT3.far hg2 _, .inr ⟨g, hg1, hg2, rfl, hrow.set hlt 0⟩⟩
      clear hT1 hT2 hT3 hrow hg1 hg2 HR
      go_wp2
      go_roundw
      case rel => exact ⟨k + 1, by omega, by go_num, HN⟩
      case measure => simp [intOf]; omega
    · obtain ⟨f1, hT⟩ := HR.out
      have HT : Hid (St w C E kb mb u lim a1 a3 c3 n f f1 wr) := hT
      clear hT HR
      go_wp2_with fail
      refine (evKey_any E kb mb u lim a3 n c3 wr HT.out.2.1).mono ?_
      rintro e w6 ⟨rfl, hb6⟩
      have HT6 : Hid (St w C E kb mb u lim a1 a3 c3 n f f1 w6) := HT.out.below hb6
      clear hb6 HT
      go_wp2_with fail
      refine (same_any a3 a n c3 cap f (by omega) w6 HT6.out.2.2.1.sl (HS.out.below HT6.out.1 (Nat.le_refl _))).mono ?_
      rintro e w7 ⟨rfl, hb7⟩
      have HB7 : Hid (Below w.heap.size w w7) := (HT6.out.below hb7).1
      clear hb7 HT6
      go_wp2
      go_ret
      exact ⟨rfl, HB7.out⟩

end Go.Proofs.Qxb6609525a
