import Derived.Test.Qxb6609497aDoorW3
import Derived.Deep.RegionWith
import Derived.Deep.CutRange
namespace Go.Proofs.Qxb6609497aDoor
open Go.RowKit

theorem bcell {W w1 : World} {C : Nat} (hb : Below C W w1) : (∀ b o, b < C → w1.cell? ⟨b, o, none⟩ = W.cell? ⟨b, o, none⟩) ∧ (∀ b o, b < C → w1.frozen? ⟨b, o, none⟩ = W.frozen? ⟨b, o, none⟩) :=
  ⟨fun b o h => hb.cell (p := ⟨b, o, none⟩) h, fun b o h => hb.frozen (p := ⟨b, o, none⟩) h⟩

theorem owns_base {w : World} {C C' : Nat} {e : TypeId} {size : Nat} {v : Value} {n : Nat} {xs : List Value} (h : w.ownsRow C e size v n xs) (hC : C' ≤ C) : w.ownsRow C' e size v n xs := by
  refine ⟨h.1, ?_⟩
  rcases h.2 with h2 | ⟨g, cap, cur, hv, hg, r⟩
  · exact .inl h2
  · exact .inr ⟨g, cap, cur, hv, by omega, r⟩

/-- 'members' of a set that is not empty, called in a world that has grown out of w0. -/
theorem members_ne (s : Nat) (hs : Hid (s < 18446744073709551616)) (hne : Hid (Pl.ml s ≠ [])) (w0 wx : World) (hg : 0 < w0.heap.size) (hT : Hid (TabAt w0)) (hb : Below w0.heap.size w0 wx) :
    Calls Tryd.prog 25 #[.int .u64 s] wx fun e w' => ∃ g cap, e = .returned (.slice (some ⟨g, 0, none⟩) (Pl.ml s).length cap) ∧ wx.heap.size ≤ g ∧ g < w'.heap.size ∧ w'.cell? ⟨g, 0, none⟩ = some (.int .i64 ((Pl.ml s).headD 0 : Nat)) ∧
      Hid (w'.ownsRow w0.heap.size 3 1 (.slice (some ⟨g, 0, none⟩) (Pl.ml s).length cap) (Pl.ml s).length (cells (Pl.ml s))) ∧ Below wx.heap.size wx w' ∧ Below w0.heap.size w0 w' := by
  have h1 := hb.size
  refine (members_any s hs wx (by omega) (hT.out.below hg hb)).mono ?_
  rintro e w' ⟨v, rfl, hown, hb'⟩
  rcases hown.2 with ⟨_, h⟩ | ⟨g, cap, cur, rfl, hgb, hh, _⟩
  · exact absurd (List.eq_nil_of_length_eq_zero h) hne.out
  · refine ⟨g, cap, rfl, hgb, lt_of_block hh, ?_, owns_base hown h1, hb', hb.trans (hb'.mono h1)⟩
    have := hown.cells (g := g) rfl 0 (.int .i64 ((Pl.ml s).headD 0 : Nat)) (by
      cases hm : Pl.ml s with
      | nil => exact absurd hm hne.out
      | cons a r => simp [cells])
    rwa [Addr.add_lit, Nat.zero_add] at this

theorem blk_new (w : World) (cur : Array Value) (t : TypeId) : Blk (w.alloc (.cells cur t)) w.heap.size cur t := heap_alloc_new w _

theorem settled_end {w w' : World} {B C : Nat} {x : Int} {v : Value} {len : Nat} {xs : List Value} (hB : B < w.heap.size) (hb0 : Below w.heap.size w w') (hown : w'.ownsRow C 3 1 v len xs) (hC : w.heap.size ≤ C) :
    w.heap.size ≤ w'.heap.size ∧ Blk ((w'.setCell ⟨B, 4, none⟩ (.pointer (some ⟨w'.heap.size, 0, none⟩))).alloc (.cells #[.int .i64 x, v] 33)) w'.heap.size #[.int .i64 x, v] 33 ∧
    ((w'.setCell ⟨B, 4, none⟩ (.pointer (some ⟨w'.heap.size, 0, none⟩))).alloc (.cells #[.int .i64 x, v] 33)).ownsRow w.heap.size 3 1 v len xs ∧
    (∀ cur t, Blk w B cur t → Blk ((w'.setCell ⟨B, 4, none⟩ (.pointer (some ⟨w'.heap.size, 0, none⟩))).alloc (.cells #[.int .i64 x, v] 33)) B (cur.setIfInBounds 4 (.pointer (some ⟨w'.heap.size, 0, none⟩))) t) ∧
    w.grownBy ((w'.setCell ⟨B, 4, none⟩ (.pointer (some ⟨w'.heap.size, 0, none⟩))).alloc (.cells #[.int .i64 x, v] 33)) (some B) := by
  have hz := hb0.size
  refine ⟨hz, ?_, ?_, ?_, ?_⟩
  · have := blk_new (w'.setCell ⟨B, 4, none⟩ (.pointer (some ⟨w'.heap.size, 0, none⟩))) #[.int .i64 x, v] 33
    rwa [World.size_setCell] at this
  · refine World.ownsRow.alloc ?_ _
    refine ownsRow_setCell_other (owns_base hown hC) (fun e => ?_) _
    have := hown.lt B e
    omega
  · intro cur t h
    exact ((h.below hb0 hB).set 4 _).alloc _
  · exact grown_trans (grown_below hb0 _) (grown_trans (grown_set _ _ _ _) (World.grownBy_alloc _ _ _))

set_option maxHeartbeats 1000000 in
theorem settled_new (B n c : Nat) (hn : n ≤ 64) (hc : Hid (c < 18446744073709551616)) (hlw : Hid (Pl.lw c n ≠ 0)) (w : World) (hB : B < w.heap.size) (hT : Hid (TabAt w))
    (hc0 : w.cell? ⟨B, 0, none⟩ = some (.int .i64 n)) (hc1 : w.cell? ⟨B, 1, none⟩ = some (.int .u64 c)) (hc4 : w.cell? ⟨B, 4, none⟩ = some (.pointer none)) (hf : ∀ o, w.frozen? ⟨B, o, none⟩ = false) :
    Calls Tryd.prog 23 #[.pointer (some ⟨B, 0, none⟩)] w fun e w' => ∃ b v, e = .returned (.pointer (some ⟨b, 0, none⟩)) ∧ w.heap.size ≤ b ∧ Blk w' b #[.int .i64 (Pl.lw c n), v] 33 ∧
      w'.ownsRow w.heap.size 3 1 v (Pl.ml (Pl.lv c n)).length (cells (Pl.ml (Pl.lv c n))) ∧ (∀ cur t, Blk w B cur t → Blk w' B (cur.setIfInBounds 4 (.pointer (some ⟨b, 0, none⟩))) t) ∧ w.grownBy w' (some B) := by
  have hs : Hid (Pl.lv c n < 18446744073709551616) := Pl.lv_lt c n hn
  have hne : Hid (Pl.ml (Pl.lv c n) ≠ []) := Pl.ml_ne c n hn hlw.out
  have hh : (Pl.ml (Pl.lv c n)).headD 0 = Pl.lw c n := Pl.ml_head c n hn
  have hl : 0 < (Pl.ml (Pl.lv c n)).length := List.length_pos_iff.2 hne.out
  have hl2 : (Pl.ml (Pl.lv c n)).length ≤ 64 := Pl.mlk_len _ 64
  have hg : 0 < w.heap.size := by omega
  go_enter Tryd.func23, Tryd.ntmps23
  go_wp2_with (first | (go_at_call 22; refine (live_any B n c hn _ hc0 hc1 hc).mono ?_; rintro e w1 ⟨rfl, k, rfl⟩))
  generalize hse : Pl.lv c n = s at *
  have HSE : Hid (Pl.lv c n = s) := hse
  clear hse
  have HH : Hid ((Pl.ml s).headD 0 = Pl.lw c n) := hh
  clear hh
  go_region_with (go_at_call 25; refine (members_ne s hs hne w _ hg hT ?_).mono ?_; (first | exact (below_drewN (Below.refl _ _) _).drew | exact below_drewN (Below.refl _ _) _ | assumption); rintro e w' ⟨g, cap, rfl, hg1, hg2, hcell, hown, hb, hb0⟩; have hcB := (hb0.cell (p := ⟨B, 4, none⟩) hB).trans hc4; have hfB := (hb0.frozen (p := ⟨B, 4, none⟩) hB).trans (hf 4); have hz : B < w'.heap.size := Nat.lt_of_lt_of_le hB hb0.size; obtain ⟨hcc, hff⟩ := bcell hb)
  all_goals go_wp2
  all_goals go_ret
  all_goals
    rw [HSE.out]
    have hx : ((Pl.ml s).head?.getD 0) = Pl.lw c n := by rw [← HH.out]; cases Pl.ml s <;> rfl
    rw [hx]
    exact ⟨_, _, rfl, settled_end hB hb0 hown.out (Nat.le_refl _)⟩
