/-
  THE WALK of FnNewEventsCopiesAreIndependent.
-/
import Derived.Test.Qxb6609525aW4
namespace Go.Proofs.Qxb6609525a
open Go.RowKit

theorem zz15_ok (u : ByteArray) (a : Option Addr) (n cap : Nat) (z : Int) (h : u.size + n ≤ 1048576) (w : World) :
    Calls Try.prog 15 #[.string u, .slice a n cap, .int .i64 z] w fun e w' => e = .returned (.bool true) ∧ w = w' := by
  go_enter Try.func15, Try.ntmps15
  go_wp2
  go_ret
  exact ⟨rfl, rfl⟩

theorem zz15_no (u : ByteArray) (a : Option Addr) (n cap : Nat) (z : Int) (hu : u.size ≤ maxLen) (hn : n ≤ maxLen) (h : ¬ u.size + n ≤ 1048576) (w : World) :
    Calls Try.prog 15 #[.string u, .slice a n cap, .int .i64 z] w fun e w' => e = .returned (.bool false) ∧ w = w' := by
  unfold maxLen at hu hn
  by_cases h1 : u.size ≤ 1048576
  · by_cases h2 : n ≤ 1048576
    · go_enter Try.func15, Try.ntmps15
      go_wp2
      go_ret
      exact ⟨rfl, rfl⟩
    · go_enter Try.func15, Try.ntmps15
      go_wp2
      go_ret
      exact ⟨rfl, rfl⟩
  · go_enter Try.func15, Try.ntmps15
    go_wp2
    go_ret
    exact ⟨rfl, rfl⟩

set_option maxRecDepth 100000 in
theorem indep_long (u : ByteArray) (a : Option Addr) (n cap : Nat) (lim : Int) (hu : u.size ≤ maxLen) (hn : n ≤ maxLen) (h : ¬ u.size + n ≤ 1048576) (w : World) :
    Calls Try.prog 4 #[.string u, .slice a n cap, .int .i64 lim] w fun e w' => e = .returned (.bool true) ∧ Below w.heap.size w w' := by
  go_enter Try.func4, Try.ntmps4
  go_wp2_with fail
  refine (zz15_no u a n cap lim hu hn h w).mono ?_
  rintro e w' ⟨rfl, rfl⟩
  go_wp2
  go_ret
  exact ⟨rfl, Below.refl _ _⟩

/-- What the law holds once both events are made: each one's own key, the caller's buffer. -/
def Sd (w : World) (C1 C2 E1 kb1 mb1 E2 kb2 mb2 : Nat) (u : ByteArray) (lim : Int) (a1 a3 a4 : Option Addr) (c3 c4 n : Nat) (f f3 : Nat → Int) (w' : World) : Prop :=
  Below w.heap.size w w' ∧ Ev w' E1 kb1 mb1 u lim (.slice a3 n c3) ∧ Ev w' E2 kb2 mb2 u lim (.slice a4 n c4) ∧ Buf w' w.heap.size C1 a1 n f ∧ Buf w' C1 C2 a3 n f3 ∧ OW w' C2 a4 n f

theorem Sd.below {w w1 w2 : World} {C1 C2 E1 kb1 mb1 E2 kb2 mb2 c3 c4 n : Nat} {u : ByteArray} {lim : Int} {a1 a3 a4 : Option Addr} {f f3 : Nat → Int} (h : Sd w C1 C2 E1 kb1 mb1 E2 kb2 mb2 u lim a1 a3 a4 c3 c4 n f f3 w1) (hb : Below w1.heap.size w1 w2) :
    Sd w C1 C2 E1 kb1 mb1 E2 kb2 mb2 u lim a1 a3 a4 c3 c4 n f f3 w2 :=
  ⟨h.1.trans (hb.mono h.1.size), h.2.1.below hb (Nat.le_refl _), h.2.2.1.below hb (Nat.le_refl _), h.2.2.2.1.below hb (Nat.le_refl _), h.2.2.2.2.1.below hb (Nat.le_refl _), h.2.2.2.2.2.below hb (Nat.le_refl _)⟩

theorem Buf.congr {w : World} {B C n : Nat} {a : Option Addr} {f f' : Nat → Int} (h : Buf w B C a n f) (e : ∀ j, j < n → f j = f' j) : Buf w B C a n f' := by
  rcases h with h | ⟨g, h1, h2, h3, r⟩
  · exact .inl h
  · exact .inr ⟨g, h1, h2, h3, r.congr e⟩

set_option maxHeartbeats 4000000 in
set_option maxRecDepth 100000 in
theorem indep_mid (u : ByteArray) (a : Option Addr) (n cap : Nat) (lim : Int) (f : Nat → Int) (h : u.size + n ≤ 1048576) (hc : Hid (a = none → cap = 0)) (w : World) (HS : Hid (SL w a n f)) :
    Calls Try.prog 4 #[.string u, .slice a n cap, .int .i64 lim] w fun e w' => e = .returned (.bool true) ∧ Below w.heap.size w w' := by
  go_enter Try.func4, Try.ntmps4
  go_wp2_with fail
  refine (zz15_ok u a n cap lim h w).mono ?_
  rintro e w' ⟨rfl, rfl⟩
  go_wp2_with fail
  refine (clone_any a n cap f (by omega) hc.out w HS).mono ?_
  rintro e w1 ⟨a1, c1, rfl, hc1, HO1, hb1⟩
  have HC1 : Hid (a1 = none → c1 = 0) := hc1
  have HB1 : Hid (Below w.heap.size w w1) := hb1
  clear hc1 hb1
  go_wp2_with fail
  refine (newKey_any a1 n c1 w1).mono ?_
  rintro e w2 ⟨rfl, HK2, hb2⟩
  have HB2 : Hid (Below w.heap.size w w2) := HB1.out.trans (hb2.mono HB1.out.size)
  have HO2 : Hid (OW w2 w.heap.size a1 n f) := HO1.out.below hb2 (Nat.le_refl _)
  clear hb2 HO1
  go_wp2_with fail
  obtain ⟨W, hW⟩ : ∃ W, W = w2.alloc (Obj.cells #[Value.pointer (some { block := w1.heap.size, off := 0 })] 29) := ⟨_, rfl⟩
  rw [← hW]
  have HQW : Hid (W.heap[w2.heap.size]? = some (.cells #[.pointer (some ⟨w1.heap.size, 0, none⟩)] 29 (0, 0))) := by rw [hW]; exact block_new _ _
  have HKW : Hid (W.heap[w1.heap.size]? = some (.cells #[.slice a1 n c1] 22 (0, 0))) := by rw [hW]; exact block_alloc _ HK2.out
  have HOW : Hid (OW W w.heap.size a1 n f) := by rw [hW]; exact HO2.out.alloc _
  have HBW : Hid (Below w.heap.size w W) := by rw [hW]; exact HB2.out.alloc HB2.out.size _
  clear hW HK2 HO2 HB1 HB2
  refine (zzNew_any w1.heap.size n c1 a1 f u lim (by omega) HC1.out W HKW HOW.out.sl).mono ?_
  rintro e w3 ⟨E1, kb1, mb1, a3, c3, rfl, HE3, HO3, hb3⟩
  have HQ3 : Hid (w3.heap[w2.heap.size]? = some (.cells #[.pointer (some ⟨w1.heap.size, 0, none⟩)] 29 (0, 0))) := block_keep hb3 (Nat.le_refl _) HQW.out
  have HK3 : Hid (w3.heap[w1.heap.size]? = some (.cells #[.slice a1 n c1] 22 (0, 0))) := block_keep hb3 (Nat.le_refl _) HKW.out
  have HU3 : Hid (Buf w3 w.heap.size W.heap.size a1 n f) := (HOW.out.buf (Nat.le_refl _)).below hb3 (Nat.le_refl _)
  have HB3 : Hid (Below w.heap.size w w3) := HBW.out.trans (hb3.mono HBW.out.size)
  have HCC : Hid (w.heap.size ≤ W.heap.size ∧ W.heap.size ≤ w3.heap.size) := ⟨HBW.out.size, hb3.size⟩
  clear hb3 HQW HKW HOW HBW
  have hq3 : w3.cell? ⟨w2.heap.size, 0, none⟩ = some (.pointer (some ⟨w1.heap.size, 0, none⟩)) := cell_of HQ3.out rfl
  go_wp2_with fail
  refine (zzNew_any w1.heap.size n c1 a1 f u lim (by omega) HC1.out w3 HK3 HU3.out.ow.sl).mono ?_
  rintro e w4 ⟨E2, kb2, mb2, a4, c4, rfl, HE4, HO4, hb4⟩
  have HT4 : Hid (Sd w W.heap.size w3.heap.size E1 kb1 mb1 E2 kb2 mb2 u lim a1 a3 a4 c3 c4 n f f w4) :=
    ⟨HB3.out.trans (hb4.mono HB3.out.size), HE3.out.below hb4 (Nat.le_refl _), HE4.out, HU3.out.below hb4 (Nat.le_refl _), (HO3.out.buf (Nat.le_refl _)).below hb4 (Nat.le_refl _), HO4.out⟩
  obtain ⟨C1, hC1⟩ : ∃ C, C = W.heap.size := ⟨_, rfl⟩
  obtain ⟨C2, hC2⟩ : ∃ C, C = w3.heap.size := ⟨_, rfl⟩
  rw [← hC1, ← hC2] at HT4 HCC
  clear hC1 hC2 hb4 HE3 HE4 HO3 HO4 HQ3 HK3 HU3 HB3 hq3 HC1
  go_wp2_with fail
  refine (evKey_any E1 kb1 mb1 u lim a3 n c3 w4 HT4.out.2.1).mono ?_
  rintro e w5 ⟨rfl, hb5⟩
  have HT5 : Hid (Sd w C1 C2 E1 kb1 mb1 E2 kb2 mb2 u lim a1 a3 a4 c3 c4 n f f w5) := HT4.out.below hb5
  clear hb5 HT4
  go_wp2_with fail
  refine (same_any a3 a n c3 cap f (by omega) w5 HT5.out.2.2.2.2.1.ow.sl (HS.out.below HT5.out.1 (Nat.le_refl _))).mono ?_
  rintro e w6 ⟨rfl, hb6⟩
  have HT6 : Hid (Sd w C1 C2 E1 kb1 mb1 E2 kb2 mb2 u lim a1 a3 a4 c3 c4 n f f w6) := HT5.out.below hb6
  clear hb6 HT5
  go_wp2_with fail
  refine (evKey_any E2 kb2 mb2 u lim a4 n c4 w6 HT6.out.2.2.1).mono ?_
  rintro e w7 ⟨rfl, hb7⟩
  have HT7 : Hid (Sd w C1 C2 E1 kb1 mb1 E2 kb2 mb2 u lim a1 a3 a4 c3 c4 n f f w7) := HT6.out.below hb7
  clear hb7 HT6
  go_wp2_with fail
  refine (same_any a4 a n c4 cap f (by omega) w7 HT7.out.2.2.2.2.2.sl (HS.out.below HT7.out.1 (Nat.le_refl _))).mono ?_
  rintro e w8 ⟨rfl, hb8⟩
  have HT8 : Hid (Sd w C1 C2 E1 kb1 mb1 E2 kb2 mb2 u lim a1 a3 a4 c3 c4 n f f w8) := HT7.out.below hb8
  clear hb8 HT7
  go_wp2_with fail
  refine (evKey_any E1 kb1 mb1 u lim a3 n c3 w8 HT8.out.2.1).mono ?_
  rintro e w9 ⟨rfl, hb9⟩
  have HT9 : Hid (Sd w C1 C2 E1 kb1 mb1 E2 kb2 mb2 u lim a1 a3 a4 c3 c4 n f f w9) := HT8.out.below hb9
  clear hb9 HT8
  go_wp2
  go_loopw [12] (fun i w' => ∃ k : Nat, k ≤ n ∧ i = .int .i64 k ∧ Hid (Sd w C1 C2 E1 kb1 mb1 E2 kb2 mb2 u lim a1 a3 a4 c3 c4 n f (fun j => if j < k then 0 else f j) w')) (fun i _ => n - (intOf i).toNat)
  case atStart =>
    refine ⟨0, by omega, rfl, HT9.out.1, HT9.out.2.1, HT9.out.2.2.1, HT9.out.2.2.2.1, HT9.out.2.2.2.2.1.congr (fun j _ => by simp), HT9.out.2.2.2.2.2⟩
  case round =>
    obtain ⟨k, hk, rfl, HR⟩ := hrel
    by_cases hlt : k < n
    · obtain ⟨t1, t2, t3, t4, t5, t6⟩ := HR.out
      rcases t5 with ⟨_, h0⟩ | ⟨g, hg1, hg2, rfl, hrow⟩
      · omega
      have x1 := hrow.cell k hlt
      have x2 := hrow.free k
      have HN : Hid (Sd w C1 C2 E1 kb1 mb1 E2 kb2 mb2 u lim a1 (some ⟨g, 0, none⟩) a4 c3 c4 n f (fun j => if j < k + 1 then 0 else f j) (wr.setCell ⟨g, k, none⟩ (.int .u8 0))) := by
        refine ⟨t1.setCell (Nat.le_trans HCC.out.1 hg1) _, t2.far hrow _, t3.far hrow _, t4.far (.inr hg1) _, .inr ⟨g, hg1, hg2, rfl, (hrow.set hlt 0).congr (fun j hj => ?_)⟩, t6.far hg2 _⟩
        by_cases e : j = k
        · subst e; simp
        · have : (j < k + 1) = (j < k) := by apply propext; omega
          simp [e, this]
      clear t1 t2 t3 t4 t6 hrow hg1 hg2 HR
      go_wp2
      go_roundw
      case rel => exact ⟨k + 1, by omega, by go_num, HN⟩
      case measure => simp [intOf]; omega
    · obtain rfl : k = n := by omega
      go_wp2_with fail
      refine (evKey_any E1 kb1 mb1 u lim a3 k c3 wr HR.out.2.1).mono ?_
      rintro e w10 ⟨rfl, hb10⟩
      have HTx := HR.out.below hb10
      have HT10 : Hid (Sd w C1 C2 E1 kb1 mb1 E2 kb2 mb2 u lim a1 a3 a4 c3 c4 k f (fun j => 0) w10) := ⟨HTx.1, HTx.2.1, HTx.2.2.1, HTx.2.2.2.1, HTx.2.2.2.2.1.congr (fun j hj => by rw [if_pos hj]), HTx.2.2.2.2.2⟩
      clear hb10 HTx HR HT9
      go_wp2
      go_loop [14] (fun i => ∃ m : Nat, m ≤ k ∧ i = .int .i64 m) (fun i => k - (intOf i).toNat)
      case atStart => exact ⟨0, by omega, rfl⟩
      case round =>
        obtain ⟨m, hm, rfl⟩ := hrel
        by_cases hmk : m < k
        · rcases HT10.out.2.2.2.2.1 with ⟨_, h0⟩ | ⟨g, _, _, rfl, hrow⟩
          · omega
          have x1 := hrow.cell m hmk
          clear hrow
          go_wp2
          go_round
          case rel => exact ⟨m + 1, by omega, by go_num⟩
          case measure => simp [intOf]; omega
        · go_wp2_with fail
          refine (evKey_any E2 kb2 mb2 u lim a4 k c4 w10 HT10.out.2.2.1).mono ?_
          rintro e w11 ⟨rfl, hb11⟩
          have HT11 : Hid (Sd w C1 C2 E1 kb1 mb1 E2 kb2 mb2 u lim a1 a3 a4 c3 c4 k f (fun j => 0) w11) := HT10.out.below hb11
          clear hb11 HT10
          go_wp2_with fail
          refine (same_any a4 a k c4 cap f (by omega) w11 HT11.out.2.2.2.2.2.sl (HS.out.below HT11.out.1 (Nat.le_refl _))).mono ?_
          rintro e w12 ⟨rfl, hb12⟩
          have HT12 : Hid (Sd w C1 C2 E1 kb1 mb1 E2 kb2 mb2 u lim a1 a3 a4 c3 c4 k f (fun j => 0) w12) := HT11.out.below hb12
          clear hb12 HT11
          go_wp2_with fail
          refine (same_any a1 a k c1 cap f (by omega) w12 HT12.out.2.2.2.1.ow.sl (HS.out.below HT12.out.1 (Nat.le_refl _))).mono ?_
          rintro e w13 ⟨rfl, hb13⟩
          have HB13 : Hid (Below w.heap.size w w13) := (HT12.out.below hb13).1
          clear hb13 HT12
          go_wp2
          go_ret
          exact ⟨rfl, HB13.out⟩

end Go.Proofs.Qxb6609525a
