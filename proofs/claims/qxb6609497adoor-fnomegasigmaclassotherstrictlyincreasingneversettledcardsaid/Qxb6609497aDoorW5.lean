import Derived.Test.Qxb6609497aDoorW4
namespace Go.Proofs.Qxb6609497aDoor
open Go.RowKit

theorem TabAt.grown {w w' : World} {B : Nat} (h : TabAt w) (hg : 0 < w.heap.size) (hG : w.grownBy w' (some B)) (hB : 0 < B) : TabAt w' := fun j hj =>
  (World.cell?_of_block (hG.block 0 hg (fun e => by cases e; omega))).trans (h j hj)

theorem owns_kept {w w' : World} {B C : Nat} {e : TypeId} {size : Nat} {v : Value} {n : Nat} {xs : List Value} (h : w.ownsRow C e size v n xs) (hg : w.grownBy w' (some B)) (hB : B < C) : w'.ownsRow C e size v n xs :=
  h.kept hg (.inr fun e => by have := (h.lt B e).1; omega)

set_option maxHeartbeats 1000000 in
theorem output_new (B n c : Nat) (hn : n ≤ 64) (hc : Hid (c < 18446744073709551616)) (hlw : Hid (Pl.lw c n ≠ 0)) (w : World) (hB0 : 0 < B) (hT : Hid (TabAt w)) (sg : Bool) (ot : Value)
    (h : Hid (Blk w B (psiC n c sg (.pointer none) (.pointer none) ot) 56)) :
    Calls Tryd.prog 26 #[.pointer (some ⟨B, 0, none⟩)] w fun e w' => ∃ b b' v, e = .returned (.pointer (some ⟨b', 0, none⟩)) ∧ w.heap.size ≤ b ∧ w.heap.size ≤ b' ∧ Blk w' b' #[.pointer (some ⟨b, 0, none⟩), .string ByteArray.empty] 44 ∧
      Blk w' b #[.int .i64 (Pl.lw c n), v] 33 ∧ w'.ownsRow w.heap.size 3 1 v (Pl.ml (Pl.lv c n)).length (cells (Pl.ml (Pl.lv c n))) ∧
      Blk w' B (psiC n c sg (.pointer (some ⟨b, 0, none⟩)) (.pointer (some ⟨b', 0, none⟩)) ot) 56 ∧ w.grownBy w' (some B) := by
  have hB : B < w.heap.size := h.out.lt
  have f11 : w.cell? ⟨B, 11, none⟩ = some (.pointer none) := h.out.cell 11 rfl
  have f9 : w.cell? ⟨B, 9, none⟩ = some (.int .i64 0) := h.out.cell 9 rfl
  have ff := h.out.free
  go_enter Tryd.func26, Tryd.ntmps26
  go_wp2_with fail
  obtain ⟨W1, hW1⟩ : ∃ W1, W1 = ((w.setCell ⟨B, 11, none⟩ (.pointer (some ⟨w.heap.size, 0, none⟩))).alloc (.cells #[.pointer none, .string { data := #[114, 101, 100] }] 44)) := ⟨_, rfl⟩
  rw [← hW1]
  have H1 : Hid (Blk W1 B (psiC n c sg (.pointer none) (.pointer (some ⟨w.heap.size, 0, none⟩)) ot) 56) := by rw [hW1]; exact (h.out.set 11 _).alloc _
  have G1 : w.grownBy W1 (some B) := by rw [hW1]; exact grown_trans (grown_set _ _ _ _) (World.grownBy_alloc _ _ _)
  clear hW1
  have T1 : Hid (TabAt W1) := hT.out.grown (by omega) G1 hB0
  have hz1 := G1.size
  refine (settled_new B n c hn hc hlw W1 H1.out.lt T1 (H1.out.cell 0 rfl) (H1.out.cell 1 rfl) (H1.out.cell 4 rfl) H1.out.free).mono ?_
  rintro e w2 ⟨b, v, rfl, hb1, hblk, hown, hkeep, hg2⟩
  have H2 : Hid (Blk w2 B (psiC n c sg (.pointer (some ⟨b, 0, none⟩)) (.pointer (some ⟨w.heap.size, 0, none⟩)) ot) 56) := hkeep _ _ H1.out
  have G2 : w.grownBy w2 (some B) := grown_trans G1 hg2
  have HB : Hid (Blk w2 b #[.int .i64 (Pl.lw c n), v] 33) := hblk
  have HO : Hid (w2.ownsRow W1.heap.size 3 1 v (Pl.ml (Pl.lv c n)).length (cells (Pl.ml (Pl.lv c n)))) := hown
  clear hblk hown hkeep hg2
  have g11 : w2.cell? ⟨B, 11, none⟩ = some (.pointer (some ⟨w.heap.size, 0, none⟩)) := H2.out.cell 11 rfl
  have gg := H2.out.free
  have hB2 : B < w2.heap.size := H2.out.lt
  go_wp2
  go_ret
  have G3 : w2.grownBy ((w2.setCell ⟨B, 11, none⟩ (.pointer (some ⟨w2.heap.size, 0, none⟩))).alloc (.cells #[.pointer (some ⟨b, 0, none⟩), .string { data := #[] }] 44)) (some B) :=
    grown_trans (grown_set _ _ _ _) (World.grownBy_alloc _ _ _)
  have hz2 := G2.size
  refine ⟨b, w2.heap.size, v, rfl, by omega, hz2, ?_, HB.out.grown G3 (fun e => by cases e; omega), owns_base (owns_kept HO.out G3 (by omega)) hz1, (H2.out.set 11 _).alloc _, grown_trans G2 G3⟩
  have := blk_new (w2.setCell ⟨B, 11, none⟩ (.pointer (some ⟨w2.heap.size, 0, none⟩))) #[.pointer (some ⟨b, 0, none⟩), .string { data := #[] }] 44
  rwa [World.size_setCell] at this

set_option maxHeartbeats 1000000 in
theorem psiSettled_new (B n c : Nat) (step : Int) (hn : n ≤ 64) (hc : Hid (c < 18446744073709551616)) (hlw : Hid (Pl.lw c n ≠ 0)) (w : World) (hB0 : 0 < B) (hT : Hid (TabAt w)) (sg : Bool)
    (h : Hid (Blk w B (psiC n c sg (.pointer none) (.pointer none) .nilIface) 56)) :
    Calls Tryd.prog 20 #[.pointer (some ⟨B, 0, none⟩), .int .i64 step] w fun e w' => ∃ b v pr st, e = .returned (.iface 44 (.agg #[.pointer (some ⟨b, 0, none⟩), .string ByteArray.empty])) ∧ w.heap.size ≤ b ∧
      Blk w' b #[.int .i64 (Pl.lw c n), v] 33 ∧ w'.ownsRow w.heap.size 3 1 v (Pl.ml (Pl.lv c n)).length (cells (Pl.ml (Pl.lv c n))) ∧
      Blk w' B (psiC n c sg pr st (.iface 44 (.agg #[.pointer (some ⟨b, 0, none⟩), .string ByteArray.empty]))) 56 ∧ w.grownBy w' (some B) := by
  have hB : B < w.heap.size := h.out.lt
  have f12 : w.cell? ⟨B, 12, none⟩ = some .nilIface := h.out.cell 12 rfl
  have ff := h.out.free
  go_enter Tryd.func20, Tryd.ntmps20
  go_wp2_with fail
  refine (output_new B n c hn hc hlw w hB0 hT sg _ h).mono ?_
  rintro e w2 ⟨b, b', v, rfl, hb, hb', hblk', hblk, hown, hps, hg⟩
  have HB : Hid (Blk w2 b #[.int .i64 (Pl.lw c n), v] 33) := hblk
  have HO : Hid (w2.ownsRow w.heap.size 3 1 v (Pl.ml (Pl.lv c n)).length (cells (Pl.ml (Pl.lv c n)))) := hown
  have HP : Hid (Blk w2 B (psiC n c sg (.pointer (some ⟨b, 0, none⟩)) (.pointer (some ⟨b', 0, none⟩)) .nilIface) 56) := hps
  have g0 : w2.cell? ⟨b', 0, none⟩ = some (.pointer (some ⟨b, 0, none⟩)) := hblk'.cell 0 rfl
  have g1 : w2.cell? ⟨b', 1, none⟩ = some (.string ByteArray.empty) := hblk'.cell 1 rfl
  have g12 : w2.cell? ⟨B, 12, none⟩ = some .nilIface := hps.cell 12 rfl
  have gg := hps.free
  clear hblk' hblk hown hps
  go_wp2
  go_ret
  refine ⟨b, v, _, _, rfl, hb, HB.out.grown (grown_set _ B _ _) (fun e => by cases e; omega), owns_kept HO.out (grown_set _ _ _ _) hB, HP.out.set 12 _, grown_trans hg (grown_set _ _ _ _)⟩

set_option maxHeartbeats 1000000 in
theorem psiSettled_old (B n c : Nat) (step : Int) (w : World) (sg : Bool) (pr st x y : Value) (h : Hid (Blk w B (psiC n c sg pr st (.iface 44 (.agg #[x, y]))) 56)) :
    Calls Tryd.prog 20 #[.pointer (some ⟨B, 0, none⟩), .int .i64 step] w fun e w' => e = .returned (.iface 44 (.agg #[x, y])) ∧ w' = w := by
  have hB : B < w.heap.size := h.out.lt
  have f12 : w.cell? ⟨B, 12, none⟩ = some (.iface 44 (.agg #[x, y])) := h.out.cell 12 rfl
  have ff := h.out.free
  go_enter Tryd.func20, Tryd.ntmps20
  go_wp2
  go_ret
  exact ⟨rfl, rfl⟩

theorem grown_new {a b c : World} {r : Option Nat} {N : Nat} (h : a.grownBy b r) (k : b.grownBy c (some N)) (hN : a.heap.size ≤ N) : a.grownBy c r :=
  ⟨k.os.trans h.os, k.tape.trans h.tape, k.output.trans h.output, Nat.le_trans h.size k.size, fun i hi hne => (k.block i (Nat.lt_of_lt_of_le hi h.size) (fun e => by cases e; omega)).trans (h.block i hi hne)⟩

theorem run_assert44 (x y : Value) (w : World) : (Instr.typeAssert (.iface 44 (.agg #[x, y])) 20 44 true).run Tryd.prog w = .ok (.tuple #[.agg #[x, y], .bool true]) w := by kernel_rfl

set_option maxHeartbeats 1000000 in
theorem zzSettled_new (B n c : Nat) (step : Int) (hn : n ≤ 64) (hc : Hid (c < 18446744073709551616)) (hlw : Hid (Pl.lw c n ≠ 0)) (w : World) (hB0 : 0 < B) (hT : Hid (TabAt w)) (sg : Bool)
    (h : Hid (Blk w B (psiC n c sg (.pointer none) (.pointer none) .nilIface) 56)) :
    Calls Tryd.prog 15 #[.pointer (some ⟨B, 0, none⟩), .int .i64 step] w fun e w' => ∃ b v pr st, e = .returned (.agg #[.pointer (some ⟨b, 0, none⟩), .string ByteArray.empty]) ∧ w.heap.size ≤ b ∧
      Blk w' b #[.int .i64 (Pl.lw c n), v] 33 ∧ w'.ownsRow w.heap.size 3 1 v (Pl.ml (Pl.lv c n)).length (cells (Pl.ml (Pl.lv c n))) ∧
      Blk w' B (psiC n c sg pr st (.iface 44 (.agg #[.pointer (some ⟨b, 0, none⟩), .string ByteArray.empty]))) 56 ∧ w.grownBy w' (some B) := by
  have hB : B < w.heap.size := h.out.lt
  go_enter Tryd.func15, Tryd.ntmps15
  go_wp2_with fail
  obtain ⟨W1, hW1⟩ : ∃ W1, W1 = (w.alloc (.cells #[.pointer none, .string { data := #[] }] 44)) := ⟨_, rfl⟩
  rw [← hW1]
  have H1 : Hid (Blk W1 B (psiC n c sg (.pointer none) (.pointer none) .nilIface) 56) := by rw [hW1]; exact h.out.alloc _
  have N1 : Hid (Blk W1 w.heap.size #[.pointer none, .string { data := #[] }] 44) := by rw [hW1]; exact blk_new _ _ _
  have G1 : w.grownBy W1 (some B) := by rw [hW1]; exact World.grownBy_alloc _ _ _
  clear hW1
  have T1 : Hid (TabAt W1) := hT.out.grown (by omega) G1 hB0
  have hz1 := G1.size
  refine (psiSettled_new B n c step hn hc hlw W1 hB0 T1 sg H1).mono ?_
  rintro e w2 ⟨b, v, pr, st, rfl, hb, hblk, hown, hps, hg⟩
  have N2 := N1.out.grown hg (fun e => by cases e; omega)
  have HB : Hid (Blk w2 b #[.int .i64 (Pl.lw c n), v] 33) := hblk
  have HO : Hid (w2.ownsRow W1.heap.size 3 1 v (Pl.ml (Pl.lv c n)).length (cells (Pl.ml (Pl.lv c n)))) := hown
  have HP : Hid (Blk w2 B (psiC n c sg pr st (.iface 44 (.agg #[.pointer (some ⟨b, 0, none⟩), .string ByteArray.empty]))) 56) := hps
  have HN : Hid (Blk w2 w.heap.size #[.pointer none, .string { data := #[] }] 44) := N2
  have g0 : w2.cell? ⟨w.heap.size, 0, none⟩ = some (.pointer none) := N2.cell 0 rfl
  have g1 : w2.cell? ⟨w.heap.size, 1, none⟩ = some (.string { data := #[] }) := N2.cell 1 rfl
  have gg := N2.free
  have hlt : w.heap.size < w2.heap.size := N2.lt
  clear hblk hown hps N2
  have hta := run_assert44
  go_wp2
  refine bodyPost_ret (v := .agg #[.pointer (some ⟨b, 0, none⟩), .string ByteArray.empty]) (by simp [results, Tryd.results15, go_sem, g0, g1, hlt]) rfl ?_
  have G3 : w2.grownBy (((w2.setCell ⟨w.heap.size, 0, none⟩ (.pointer (some ⟨b, 0, none⟩))).setCell ⟨w.heap.size, 1, none⟩ (.string ByteArray.empty)).alloc (.cells #[.pointer (some ⟨b, 0, none⟩), .string ByteArray.empty] 44)) (some w.heap.size) :=
    grown_trans (grown_trans (grown_set _ _ _ _) (grown_set _ _ _ _)) (World.grownBy_alloc _ _ _)
  have hz : w.heap.size < W1.heap.size := N1.out.lt
  exact ⟨b, v, pr, st, rfl, by omega, HB.out.grown G3 (fun e => by cases e; omega), owns_base (owns_kept HO.out G3 hz) hz1, HP.out.grown G3 (fun e => by cases e; omega), grown_new (grown_trans G1 hg) G3 (Nat.le_refl _)⟩

set_option maxHeartbeats 1000000 in
theorem zzSettled_old (B n c b : Nat) (step : Int) (w : World) (sg : Bool) (pr st : Value) (h : Hid (Blk w B (psiC n c sg pr st (.iface 44 (.agg #[.pointer (some ⟨b, 0, none⟩), .string ByteArray.empty]))) 56)) :
    Calls Tryd.prog 15 #[.pointer (some ⟨B, 0, none⟩), .int .i64 step] w fun e w' => e = .returned (.agg #[.pointer (some ⟨b, 0, none⟩), .string ByteArray.empty]) ∧ Below w.heap.size w w' := by
  have hB : B < w.heap.size := h.out.lt
  go_enter Tryd.func15, Tryd.ntmps15
  go_wp2_with fail
  refine (psiSettled_old B n c step _ sg pr st _ _ (h.out.alloc _)).mono ?_
  rintro e w2 ⟨rfl, rfl⟩
  have hta := run_assert44
  go_wp2
  exact bodyPost_ret (v := .agg #[.pointer (some ⟨b, 0, none⟩), .string ByteArray.empty]) (by simp [results, Tryd.results15, go_sem]) rfl
    ⟨rfl, ((Below.refl _ _).alloc (Nat.le_refl _) _).alloc (by simp) _⟩
