/-
  newEvents and ZZnewEvents: new events with a copy of the key of their own.
-/
import Derived.Test.Qxb6609525aW2
namespace Go.Proofs.Qxb6609525a
open Go.RowKit

theorem block_keep {w w' : World} {C k : Nat} {o : Obj} (hb : Below C w w') (hC : w.heap.size ≤ C) (h : w.heap[k]? = some o) : w'.heap[k]? = some o :=
  (hb.block k (Nat.lt_of_lt_of_le (lt_of_block h) hC)).trans h
theorem block_alloc {w : World} {k : Nat} {o : Obj} (p : Obj) (h : w.heap[k]? = some o) : (w.alloc p).heap[k]? = some o :=
  (Below.heap_alloc _ _ _ (lt_of_block h)).trans h
theorem block_new2 (w : World) (o p : Obj) : ((w.alloc o).alloc p).heap[w.heap.size + 1]? = some p := by
  have := block_new (w.alloc o) p
  rwa [size_alloc] at this

theorem OW.weaken {w : World} {C D n : Nat} {a : Option Addr} {f : Nat → Int} (h : OW w C a n f) (hD : D ≤ C) : OW w D a n f := by
  rcases h with h | ⟨g, hg, r⟩
  · exact .inl h
  · exact .inr ⟨g, Nat.le_trans hD hg, r⟩
theorem OW.alloc {w : World} {C n : Nat} {a : Option Addr} {f : Nat → Int} (h : OW w C a n f) (o : Obj) : OW (w.alloc o) C a n f := h.below ((Below.refl _ _).alloc (Nat.le_refl _) o) (Nat.le_refl _)

theorem Kept.step {W w1 w2 : World} {b : Nat} {v : Value} {C : Nat} (h : w1.cell? ⟨b, 0, none⟩ = some v ∧ Hid (Below W.heap.size W w1)) (hC : Hid (w1.heap.size ≤ C)) (hb : Below C w1 w2) : w2.cell? ⟨b, 0, none⟩ = some v ∧ Hid (Below W.heap.size W w2) :=
  ⟨(hb.cell (Nat.lt_of_lt_of_le (World.block_lt_of_cell? w1 ⟨b, 0, none⟩ h.1) hC.out)).trans h.1, h.2.out.trans (hb.mono (Nat.le_trans h.2.out.size hC.out))⟩
theorem Kept.alloc {W w1 : World} {b : Nat} {v : Value} (h : w1.cell? ⟨b, 0, none⟩ = some v ∧ Hid (Below W.heap.size W w1)) (o : Obj) : (w1.alloc o).cell? ⟨b, 0, none⟩ = some v ∧ Hid (Below W.heap.size W (w1.alloc o)) :=
  Kept.step h (Nat.le_refl _) ((Below.refl _ _).alloc (Nat.le_refl _) o)

set_option maxHeartbeats 1000000 in
set_option maxRecDepth 100000 in
theorem newEvents_any (kb n c : Nat) (a : Option Addr) (f : Nat → Int) (url : ByteArray) (lim : Int) (v : Value) (fn : Fn) (fs cs : Array Value) (hn : n ≤ 1048576) (hc : a = none → c = 0) (w : World)
    (HK : Hid (w.heap[kb]? = some (.cells #[.slice a n c] 22 (0, 0)))) (HS : Hid (SL w a n f)) :
    Calls Try.prog 17 #[.func fn fs cs, .iface 62 v, .string url, .agg #[.pointer (some ⟨kb, 0, none⟩)], .int .i64 lim] w fun e w' => ∃ E kb' mb a' c', e = .returned (.pointer (some ⟨E, 0, none⟩)) ∧ Hid (Ev w' E kb' mb url lim (.slice a' n c')) ∧ Hid (OW w' w.heap.size a' n f) ∧ Below w.heap.size w w' := by
  have hmm := @run_makeMap Try.prog
  go_enter Try.func17, Try.ntmps17
  go_wp2_with fail
  obtain ⟨W, hW⟩ : ∃ W, W = w.alloc (Obj.cells #[Value.pointer (some { block := kb, off := 0 })] 29) := ⟨_, rfl⟩
  rw [← hW]
  have hcW : W.cell? ⟨w.heap.size, 0, none⟩ = some (.pointer (some ⟨kb, 0, none⟩)) := by rw [hW]; exact cell_of (block_new _ _) rfl
  have HBW : Hid (Below w.heap.size w W) := by rw [hW]; exact (Below.refl _ _).alloc (Nat.le_refl _) _
  have HKW : Hid (W.heap[kb]? = some (.cells #[.slice a n c] 22 (0, 0))) := block_keep HBW.out (Nat.le_refl _) HK.out
  have HSW : Hid (SL W a n f) := HS.out.below HBW.out (Nat.le_refl _)
  clear hW HK HS
  go_region_held_law (fun w' => w'.cell? ⟨w.heap.size, 0, none⟩ = some (.pointer (some ⟨kb, 0, none⟩)) ∧ Hid (Below W.heap.size W w'))
    (first | exact ⟨hcW, (Below.refl _ _).drew⟩ | exact Kept.step (by assumption) (Nat.le_refl _) (by assumption) | exact Kept.alloc (by assumption) _)
    (first
      | (go_at_call 21; refine (newReader_any v _).mono ?_; rintro e w1 ⟨B1, rfl, hb1⟩)
      | (go_at_call 20; refine (key_any kb a n c _ (block_keep (And.right (by assumption : _ ∧ Hid (Below W.heap.size W _))).out (Nat.le_refl _) HKW.out)).mono ?_; rintro e w2 ⟨rfl, hb2⟩)
      | (go_at_call 8; refine (newKey_any _ n _ _).mono ?_; rintro e w4 ⟨rfl, HK4, hb4⟩)
      | (refine step_copy rfl (.const (.slice none 0 0)) (.tmp 18) rfl a n c f rfl rfl hn (HSW.out.below (And.right (by assumption : _ ∧ Hid (Below W.heap.size W _))).out (Nat.le_refl _)) hc ?_; intro a' c' w3 hOW hb3))
  all_goals have s2 : W.heap.size ≤ w1.heap.size := by (first | exact hb1.size | (have h : (W.alloc (Obj.map #[] 0)).heap.size ≤ w1.heap.size := hb1.size; rw [size_alloc] at h; exact Nat.le_of_succ_le h))
  all_goals have s3 : w1.heap.size ≤ w2.heap.size := by (first | exact hb2.size | (have := hb2.size; rw [size_alloc] at this; exact Nat.le_of_succ_le this))
  all_goals have sC : w.heap.size ≤ w2.heap.size := Nat.le_trans HBW.out.size (Nat.le_trans s2 s3)
  all_goals have HO3 : Hid (OW w3 w.heap.size a' n f) := by (first | exact hOW.out.weaken sC | exact hOW.out.weaken (by rw [size_alloc]; omega))
  all_goals have HO4 : Hid (OW w4 w.heap.size a' n f) := by (first | exact HO3.out.below hb4 (Nat.le_refl _) | exact (HO3.out.alloc _).below hb4 (Nat.le_refl _))
  all_goals have HE := (And.right (by assumption : _ ∧ Hid (Below W.heap.size W _)))
  all_goals have HB : Hid (Below w.heap.size w _) := HBW.out.trans (HE.out.mono HBW.out.size)
  all_goals go_wp2
  · go_ret
    exact ⟨_, _, _, _, _, rfl, ⟨⟨_, block_new2 _ _ _, rfl, rfl, rfl, rfl⟩, block_alloc _ (block_alloc _ HK4.out), block_alloc _ (block_new _ _)⟩, (HO4.out.alloc _).alloc _, HB.out⟩
  · go_ret
    have hk := HK4.out
    rw [size_alloc] at hk
    exact ⟨_, _, _, _, _, rfl, ⟨⟨_, block_new _ _, rfl, rfl, rfl, rfl⟩, block_alloc _ hk, block_alloc _ (block_keep hb4 (Nat.le_refl _) (block_new _ _))⟩, HO4.out.alloc _, HB.out⟩
  · go_ret
    exact ⟨_, _, _, _, _, rfl, ⟨⟨_, block_new _ _, rfl, rfl, rfl, rfl⟩, block_alloc _ HK4.out, block_alloc _ (block_keep hb4 (Nat.le_refl _) (block_keep hb3 (Nat.le_refl _) (block_new _ _)))⟩, HO4.out.alloc _, HB.out⟩
  · go_ret
    exact ⟨_, _, _, _, _, rfl, ⟨⟨_, block_new _ _, rfl, rfl, rfl, rfl⟩, block_alloc _ HK4.out, block_alloc _ (block_keep hb4 (Nat.le_refl _) (block_keep hb3 (Nat.le_refl _) (block_keep hb2 (Nat.le_refl _) (block_new _ _))))⟩, HO4.out.alloc _, HB.out⟩
  · go_ret
    exact ⟨_, _, _, _, _, rfl, ⟨⟨_, block_new _ _, rfl, rfl, rfl, rfl⟩, block_alloc _ HK4.out, block_alloc _ (block_keep hb4 (Nat.le_refl _) (block_keep hb3 (Nat.le_refl _) (block_keep hb2 (Nat.le_refl _) (block_keep hb1 (Nat.le_refl _) (block_new W _)))))⟩, HO4.out.alloc _, HB.out⟩

end Go.Proofs.Qxb6609525a
