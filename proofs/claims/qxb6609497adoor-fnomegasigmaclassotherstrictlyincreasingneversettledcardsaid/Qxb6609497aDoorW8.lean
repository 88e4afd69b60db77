/-
  ZZOSCOther, and what the two laws share.
-/
import Derived.Test.Qxb6609497aDoorW7
namespace Go.Proofs.Qxb6609497aDoor
open Go.RowKit

set_option maxHeartbeats 1000000 in
theorem zzOther_any (B n c C i : Nat) (hn : n ≤ 12) (hc : Hid (c < 18446744073709551616)) (hlw : Hid (Pl.lw c n ≠ 0)) (hi : i ≤ 60000) (w : World) (al pr : Value) (hC : C ≤ w.heap.size) (hBC : B < C) (hB0 : 0 < B) (hT : Hid (TabAt w)) (h : Hid (Osc B n c C al pr w)) (q : Nat)
    (hq : Hid ((QL c n)[Pl.skip (SN c n) i % (QL c n).length]? = some q)) :
    Calls Tryd.prog 10 #[.pointer (some ⟨B, 0, none⟩), .int .i64 i] w fun e w' => ∃ g cap al' pr', e = .returned (.agg #[.int .i64 ((1 + Pl.skip (SN c n) i / (QL c n).length : Nat) : Int), .slice (some ⟨g, 0, none⟩) (Pl.ml q).length cap]) ∧
      w'.ownsRow w.heap.size 3 1 (.slice (some ⟨g, 0, none⟩) (Pl.ml q).length cap) (Pl.ml q).length (cells (Pl.ml q)) ∧ Osc B n c C al' pr' w' ∧ w.grownBy w' (some B) := by
  have hz : B < w.heap.size := h.out.cls.lt
  go_enter Tryd.func10, Tryd.ntmps10
  go_wp2_with fail
  obtain ⟨W1, hW1⟩ : ∃ W1, W1 = w.alloc (.cells #[.int .i64 0, .slice none 0 0] 33) := ⟨_, rfl⟩
  rw [← hW1]
  have O1 : Hid (Osc B n c C al pr W1) := by rw [hW1]; exact h.out.alloc _
  have N1 : Hid (Blk W1 w.heap.size #[.int .i64 0, .slice none 0 0] 33) := by rw [hW1]; exact blk_new _ _ _
  have G1 : w.grownBy W1 (some B) := by rw [hW1]; exact World.grownBy_alloc _ _ _
  clear hW1
  have hz1 := G1.size
  have T1 : Hid (TabAt W1) := hT.out.grown (by omega) G1 hB0
  refine (other_any B n c C i hn hc hlw hi W1 al pr (by omega) hBC hB0 T1 O1 q hq).mono ?_
  rintro e w2 ⟨g, cap, al', pr', rfl, hown, hO, hg⟩
  have N2 := N1.out.grown hg (fun e => by cases e; omega)
  have n0 : w2.cell? ⟨w.heap.size, 0, none⟩ = some (.int .i64 0) := N2.cell 0 rfl
  have n1 : w2.cell? ⟨w.heap.size, 1, none⟩ = some (.slice none 0 0) := N2.cell 1 rfl
  have nf := N2.free
  have HO : Hid (Osc B n c C al' pr' w2) := hO
  have HW : Hid (w2.ownsRow W1.heap.size 3 1 (.slice (some ⟨g, 0, none⟩) (Pl.ml q).length cap) (Pl.ml q).length (cells (Pl.ml q))) := hown
  have HN : Hid (Blk w2 w.heap.size #[.int .i64 0, .slice none 0 0] 33) := N2
  have hN1 : w.heap.size < W1.heap.size := N1.out.lt
  clear hO hown N2
  generalize hde : 1 + Pl.skip (SN c n) i / (QL c n).length = d at *
  have HDe : Hid (1 + Pl.skip (SN c n) i / (QL c n).length = d) := hde
  clear hde
  go_wp2
  refine bodyPost_ret (v := .agg #[.int .i64 (d : Int), .slice (some ⟨g, 0, none⟩) (Pl.ml q).length cap]) (by simp [results, Tryd.results10, go_sem, n0, n1]) rfl ?_
  have g1 : w2.grownBy ((w2.setCell ⟨w.heap.size, 0, none⟩ (.int .i64 (d : Int))).setCell ⟨w.heap.size, 1, none⟩ (.slice (some ⟨g, 0, none⟩) (Pl.ml q).length cap)) (some w.heap.size) := grown_trans (grown_set _ _ _ _) (grown_set _ _ _ _)
  exact ⟨g, cap, al', pr', by rw [HDe.out], owns_base (owns_kept HW.out g1 hN1) hz1, HO.out.grownN HN.out hlw.out g1, grown_new (grown_trans G1 hg) g1 (Nat.le_refl _)⟩

/-- What holds ahead of round k + 1 of the crashes. -/
def ORel (w : World) (B n c : Nat) (k : Nat) (wr : World) : Prop :=
  Blk wr B (oscC n (c % 2 ^ k) (.slice none 0 0) (.pointer none)) 50 ∧ Below w.heap.size w wr

theorem ORel.hit {w : World} {B n c k : Nat} {wr w' : World} (h : ORel w B n c k wr) (hB : w.heap.size ≤ B) (hb : c.testBit k = true) (hx : Blk w' B (oscC n (c % 2 ^ k ||| 2 ^ k) (.slice none 0 0) (.pointer none)) 50) (hg : wr.grownBy w' (some B)) :
    ORel w B n c (k + 1) w' :=
  ⟨by rw [Pl.mod_step, if_pos hb]; exact hx, below_grown h.2 hg h.2.size hB⟩

theorem ORel.miss {w : World} {B n c k : Nat} {wr : World} (h : ORel w B n c k wr) (hb : c.testBit k = false) : ORel w B n c (k + 1) wr :=
  ⟨by rw [Pl.mod_step, if_neg (by simp [hb])]; exact h.1, h.2⟩

theorem mod_lt64' (c k : Nat) (hc : c < 18446744073709551616) : c % 2 ^ k < 18446744073709551616 := Nat.lt_of_le_of_lt (Nat.mod_le _ _) hc
theorem mod_all' (c : Nat) (hc : c < 18446744073709551616) : c % 2 ^ 64 = c := Nat.mod_eq_of_lt hc

theorem live_two (n c : Nat) (hn : n ≤ 64) (hc : Hid (c < 18446744073709551616)) (w : World) :
    Calls Tryd.prog 7 #[.int .i64 n, .int .u64 c] w fun e w' => e = .returned (.tuple #[.int .u64 (Pl.lv c n), .int .i64 (Pl.lw c n)]) ∧ w = w' :=
  (b1Live_any n c hn hc w).mono fun _ _ ⟨a, b⟩ => ⟨a, b.symm⟩

theorem members_two (s : Nat) (hs : Hid (s < 18446744073709551616)) (v : Value) (base : Nat) (w : World) (hown : Hid (w.ownsRow base 3 1 v (Pl.ml s).length (cells (Pl.ml s)))) (hne : Hid (Pl.ml s ≠ [])) :
    Calls Tryd.prog 11 #[v, .int .u64 s] w fun e w' => e = .returned (.bool true) ∧ w = w' :=
  (same_any s hs v base w hown hne.out).mono fun _ _ ⟨a, b⟩ => ⟨a, b.symm⟩

end Go.Proofs.Qxb6609497aDoor
