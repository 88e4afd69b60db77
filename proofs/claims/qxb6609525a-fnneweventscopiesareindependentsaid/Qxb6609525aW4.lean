/-
  ZZnewEvents: the law's own maker.
-/
import Derived.Test.Qxb6609525aW3
namespace Go.Proofs.Qxb6609525a
open Go.RowKit

set_option maxHeartbeats 1000000 in
set_option maxRecDepth 100000 in
theorem zzNew_any (kb n c : Nat) (a : Option Addr) (f : Nat → Int) (url : ByteArray) (lim : Int) (hn : n ≤ 1048576) (hc : a = none → c = 0) (w : World)
    (HK : Hid (w.heap[kb]? = some (.cells #[.slice a n c] 22 (0, 0)))) (HS : Hid (SL w a n f)) :
    Calls Try.prog 7 #[.string url, .agg #[.pointer (some ⟨kb, 0, none⟩)], .int .i64 lim] w fun e w' => ∃ E kb' mb a' c', e = .returned (.pointer (some ⟨E, 0, none⟩)) ∧ Hid (Ev w' E kb' mb url lim (.slice a' n c')) ∧ Hid (OW w' w.heap.size a' n f) ∧ Below w.heap.size w w' := by
  go_enter Try.func7, Try.ntmps7
  go_wp2_with fail
  obtain ⟨W, hW⟩ : ∃ W, W = w.alloc (Obj.cells #[Value.pointer (some { block := kb, off := 0 })] 29) := ⟨_, rfl⟩
  rw [← hW]
  have hcW : W.cell? ⟨w.heap.size, 0, none⟩ = some (.pointer (some ⟨kb, 0, none⟩)) := by rw [hW]; exact cell_of (block_new _ _) rfl
  have HBW : Hid (Below w.heap.size w W) := by rw [hW]; exact (Below.refl _ _).alloc (Nat.le_refl _) _
  have HKW : Hid (W.heap[kb]? = some (.cells #[.slice a n c] 22 (0, 0))) := block_keep HBW.out (Nat.le_refl _) HK.out
  have HSW : Hid (SL W a n f) := HS.out.below HBW.out (Nat.le_refl _)
  clear hW HK HS
  go_region_held (fun w' => w'.cell? ⟨w.heap.size, 0, none⟩ = some (.pointer (some ⟨kb, 0, none⟩)) ∧ Hid (Below W.heap.size W w'))
    (first | exact ⟨hcW, (Below.refl _ _).drew⟩ | assumption | exact Kept.step (by assumption) (Nat.le_refl _) (by assumption))
    (first
      | (go_at_call 19; refine (bytesReader_any _).mono ?_; rintro e w1 ⟨rfl, hb1⟩)
      | (go_at_call 18; refine (nopCloser_any _ _).mono ?_; rintro e w2 ⟨rfl, rfl⟩)
      | (go_at_call 17; refine (newEvents_any kb n c a f url lim _ _ _ _ hn hc _ (block_keep (And.right (by assumption : _ ∧ Hid (Below W.heap.size W _))).out (Nat.le_refl _) HKW.out) (HSW.out.below (And.right (by assumption : _ ∧ Hid (Below W.heap.size W _))).out (Nat.le_refl _))).mono ?_; rintro e w3 ⟨E, kb', mb, a', c', rfl, HEv, HOW, hb3⟩))
  have HE := (And.right (by assumption : _ ∧ Hid (Below W.heap.size W w3)))
  have hC : w.heap.size ≤ w1.heap.size := Nat.le_trans HBW.out.size hb1.size
  have HB : Hid (Below w.heap.size w w3) := HBW.out.trans (HE.out.mono HBW.out.size)
  go_wp2
  go_ret
  exact ⟨_, _, _, _, _, rfl, HEv, HOW.out.weaken hC, HB.out⟩

/-- A row of the call's own, in a block from B on and below C. -/
def Buf (w : World) (B C : Nat) (a : Option Addr) (n : Nat) (f : Nat → Int) : Prop := (a = none ∧ n = 0) ∨ ∃ g, B ≤ g ∧ g < C ∧ a = some ⟨g, 0, none⟩ ∧ BRow w g n f

theorem OW.buf {w : World} {B C n : Nat} {a : Option Addr} {f : Nat → Int} (h : OW w B a n f) (hC : w.heap.size ≤ C) : Buf w B C a n f := by
  rcases h with h | ⟨g, hg, e, r⟩
  · exact .inl h
  · exact .inr ⟨g, hg, Nat.lt_of_lt_of_le r.lt hC, e, r⟩
theorem Buf.ow {w : World} {B C n : Nat} {a : Option Addr} {f : Nat → Int} (h : Buf w B C a n f) : OW w B a n f := by
  rcases h with h | ⟨g, hg, _, e, r⟩
  · exact .inl h
  · exact .inr ⟨g, hg, e, r⟩
theorem Buf.below {w w' : World} {B C D n : Nat} {a : Option Addr} {f : Nat → Int} (h : Buf w B C a n f) (hb : Below D w w') (hD : w.heap.size ≤ D) : Buf w' B C a n f := by
  rcases h with h | ⟨g, hg, hl, e, r⟩
  · exact .inl h
  · exact .inr ⟨g, hg, hl, e, r.below hb (Nat.lt_of_lt_of_le r.lt hD)⟩
theorem Buf.far {w : World} {B C n g i : Nat} {a : Option Addr} {f : Nat → Int} (h : Buf w B C a n f) (hg : g < B ∨ C ≤ g) (u : Value) : Buf (w.setCell ⟨g, i, none⟩ u) B C a n f := by
  rcases h with h | ⟨g', h1, h2, e, r⟩
  · exact .inl h
  · exact .inr ⟨g', h1, h2, e, r.far (by omega) u⟩
theorem OW.far {w : World} {C n g i : Nat} {a : Option Addr} {f : Nat → Int} (h : OW w C a n f) (hg : g < C) (u : Value) : OW (w.setCell ⟨g, i, none⟩ u) C a n f := by
  rcases h with h | ⟨g', h1, e, r⟩
  · exact .inl h
  · exact .inr ⟨g', h1, e, r.far (by omega) u⟩

theorem clone_any (a : Option Addr) (n cap : Nat) (f : Nat → Int) (hn : n ≤ 1048576) (hc : a = none → cap = 0) (w : World) (H : Hid (SL w a n f)) :
    Calls Try.prog 6 #[.slice a n cap] w fun e w' => ∃ a' c', e = .returned (.slice a' n c') ∧ (a' = none → c' = 0) ∧ Hid (OW w' w.heap.size a' n f) ∧ Below w.heap.size w w' := by
  cases a with
  | none =>
    obtain rfl := H.out.1 rfl
    obtain rfl := hc rfl
    refine (clone_nil w).mono ?_
    rintro e w' ⟨rfl, rfl⟩
    exact ⟨none, 0, rfl, fun _ => rfl, .inl ⟨rfl, rfl⟩, Below.refl _ _⟩
  | some x =>
    refine (clone_some x n cap f hn w H).mono ?_
    rintro e w' ⟨rfl, h1, h2⟩
    exact ⟨_, n, rfl, fun h => (by cases h), .inr ⟨_, Nat.le_refl _, rfl, h1⟩, h2⟩

end Go.Proofs.Qxb6609525a
