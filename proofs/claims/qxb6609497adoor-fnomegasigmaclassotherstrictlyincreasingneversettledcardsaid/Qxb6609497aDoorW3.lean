import Derived.Test.Qxb6609497aDoorW2
import Derived.BigRegion
import Derived.RegionTactic
namespace Go.Proofs.Qxb6609497aDoor
open Go.RowKit

/-- Block B is a row of just these cells, none frozen. -/
def Blk (w : World) (B : Nat) (cur : Array Value) (t : TypeId) : Prop := w.heap[B]? = some (.cells cur t (0, 0))

theorem Blk.cell {w : World} {B : Nat} {cur : Array Value} {t : TypeId} (h : Blk w B cur t) (i : Nat) {v : Value} (hv : cur[i]? = some v) : w.cell? ⟨B, i, none⟩ = some v := by
  unfold Blk at h; simp [World.cell?, h, hv]
theorem Blk.free {w : World} {B : Nat} {cur : Array Value} {t : TypeId} (h : Blk w B cur t) (i : Nat) : w.frozen? ⟨B, i, none⟩ = false := by
  unfold Blk at h; simp [World.frozen?, h]
theorem Blk.lt {w : World} {B : Nat} {cur : Array Value} {t : TypeId} (h : Blk w B cur t) : B < w.heap.size := lt_of_block h
theorem Blk.drew {w : World} {B : Nat} {cur : Array Value} {t : TypeId} (h : Blk w B cur t) : Blk w.drew B cur t := h
theorem Blk.set {w : World} {B : Nat} {cur : Array Value} {t : TypeId} (h : Blk w B cur t) (i : Nat) (u : Value) : Blk (w.setCell ⟨B, i, none⟩ u) B (cur.setIfInBounds i u) t := by
  have hlt := lt_of_block h
  have h' : w.heap[B] = .cells cur t (0, 0) := by have h2 : w.heap[B]? = _ := h; simpa [Array.getElem?_eq_getElem hlt] using h2
  show (w.heap.modify B _)[B]? = _
  rw [Array.getElem?_eq_getElem (by simpa using hlt), Array.getElem_modify_self, h']
  rfl
theorem Blk.alloc {w : World} {B : Nat} {cur : Array Value} {t : TypeId} (h : Blk w B cur t) (o : Obj) : Blk (w.alloc o) B cur t := by
  have := Below.heap_alloc w o B h.lt
  exact this.trans h
theorem Blk.grown {w w' : World} {B : Nat} {cur : Array Value} {t : TypeId} {row : Option Nat} (h : Blk w B cur t) (hg : w.grownBy w' row) (hr : some B ≠ row) : Blk w' B cur t :=
  (hg.block B h.lt hr).trans h
theorem Blk.below {w w' : World} {B C : Nat} {cur : Array Value} {t : TypeId} (h : Blk w B cur t) (hg : Below C w w') (hr : B < C) : Blk w' B cur t :=
  (hg.block B hr).trans h

theorem grown_set (w : World) (B i : Nat) (u : Value) : w.grownBy (w.setCell ⟨B, i, none⟩ u) (some B) :=
  ⟨rfl, rfl, rfl, by simp, fun k _ hne => Below.heap_setCell _ _ _ _ (fun e => hne (by rw [e]))⟩
theorem grown_drew (w : World) (r : Option Nat) : w.grownBy w.drew r := ⟨rfl, rfl, rfl, Nat.le_refl _, fun _ _ _ => rfl⟩
theorem grown_drewN (w : World) (k : Nat) (r : Option Nat) : w.grownBy (w.drewN k) r := ⟨rfl, rfl, rfl, Nat.le_refl _, fun _ _ _ => rfl⟩
theorem grown_trans {a b c : World} {r : Option Nat} (h : a.grownBy b r) (k : b.grownBy c r) : a.grownBy c r :=
  ⟨k.os.trans h.os, k.tape.trans h.tape, k.output.trans h.output, Nat.le_trans h.size k.size, fun i hi hne => (k.block i (Nat.lt_of_lt_of_le hi h.size) hne).trans (h.block i hi hne)⟩
theorem grown_below {w w' : World} (h : Below w.heap.size w w') (r : Option Nat) : w.grownBy w' r := ⟨h.os, h.tape, h.output, h.size, fun k hk _ => h.block k hk⟩
theorem below_grown {B C : Nat} {w0 w w' : World} (h : Below C w0 w) (hg : w.grownBy w' (some B)) (hC : C ≤ w.heap.size) (hB : C ≤ B) : Below C w0 w' :=
  h.grown hg hC (fun k hk => by cases hk; exact hB)

def psiC (n c : Nat) (sg : Bool) (pr st ot : Value) : Array Value :=
  #[.int .i64 n, .int .u64 c, .slice none 0 0, .slice none 0 0, pr, .nilIface, .int .u64 ((2 ^ n - 1 : Nat) : Int), .bool sg, .int .u64 0, .int .i64 0, .int .u64 0, st, ot]

set_option maxHeartbeats 400000 in
theorem newPsi_any (n : Nat) (hn : n ≤ 64) (w : World) :
    Calls Tryd.prog 13 #[.int .i64 n] w fun e w' => e = .returned (.pointer (some ⟨w.heap.size, 0, none⟩)) ∧ w' = w.alloc (.cells (psiC n 0 false (.pointer none) (.pointer none) .nilIface) 56) := by
  go_enter Tryd.func13, Tryd.ntmps13
  go_wp2_with (first | (go_at_call 18; refine (upTo_any _ hn _).mono ?_; rintro e w2 ⟨rfl, rfl⟩) | go_in)
  go_ret
  exact ⟨rfl, rfl⟩

/-- What Crash leaves: the class's cells as written. -/
def crashW (w : World) (B : Nat) (x : Int) : World :=
  (((w.setCell ⟨B, 1, none⟩ (.int .u64 x)).setCell ⟨B, 3, none⟩ (.slice none 0 0)).setCell ⟨B, 4, none⟩ (.pointer none)).setCell ⟨B, 5, none⟩ .nilIface

set_option maxHeartbeats 400000 in
theorem crash_any (B c p : Nat) (hp : p < 64) (hc : Hid (c < 18446744073709551616)) (w : World) (v3 v4 v5 : Value)
    (hc1 : w.cell? ⟨B, 1, none⟩ = some (.int .u64 c)) (hc3 : w.cell? ⟨B, 3, none⟩ = some v3) (hc4 : w.cell? ⟨B, 4, none⟩ = some v4) (hc5 : w.cell? ⟨B, 5, none⟩ = some v5)
    (hf : ∀ o, w.frozen? ⟨B, o, none⟩ = false) :
    Calls Tryd.prog 9 #[.pointer (some ⟨B, 0, none⟩), .int .i64 ((p : Int) + 1)] w fun e w' => e = .returned (.tuple #[]) ∧ w' = (crashW w B ((c ||| 2 ^ p : Nat) : Int)).drew := by
  rw [← or_val c p hc.out hp]
  go_enter Tryd.func9, Tryd.ntmps9
  go_wp2
  go_region
  all_goals (try go_wp2)
  all_goals go_end0
  exact ⟨rfl, rfl⟩

theorem crashW_grown (w : World) (B : Nat) (x : Int) : w.grownBy (crashW w B x) (some B) :=
  grown_trans (grown_trans (grown_trans (grown_set _ _ _ _) (grown_set _ _ _ _)) (grown_set _ _ _ _)) (grown_set _ _ _ _)

theorem crashW_psi {w : World} {B n c : Nat} {sg : Bool} {pr st ot : Value} (h : Blk w B (psiC n c sg pr st ot) 56) (x : Nat) : Blk (crashW w B x) B (psiC n x sg (.pointer none) st ot) 56 :=
  (((h.set 1 _).set 3 _).set 4 _).set 5 _

set_option maxHeartbeats 1000000 in
theorem psiCrash_any (B n c p : Nat) (hn : n ≤ 64) (hp : p < 64) (hc : Hid (c < 18446744073709551616)) (w : World) (sg : Bool) (pr st ot : Value) (h : Hid (Blk w B (psiC n c sg pr st ot) 56)) :
    Calls Tryd.prog 14 #[.pointer (some ⟨B, 0, none⟩), .int .i64 ((p : Int) + 1)] w fun e w' => e = .returned (.tuple #[]) ∧ (∃ sg', Blk w' B (psiC n (c ||| 2 ^ p) sg' (.pointer none) (.pointer none) .nilIface) 56) ∧ w.grownBy w' (some B) := by
  go_enter Tryd.func14, Tryd.ntmps14
  go_wp2_with fail
  refine (crash_any B c p hp hc w _ _ _ (h.out.cell 1 rfl) (h.out.cell 3 rfl) (h.out.cell 4 rfl) (h.out.cell 5 rfl) h.out.free).mono ?_
  rintro e w1 ⟨rfl, hw1⟩
  have H1 : Hid (Blk w1 B (psiC n (c ||| 2 ^ p) sg (.pointer none) st ot) 56) := by rw [hw1]; exact (crashW_psi h.out (c ||| 2 ^ p)).drew
  have G1 : w.grownBy w1 (some B) := by rw [hw1]; exact grown_trans (crashW_grown _ _ _) (grown_drew _ _)
  clear hw1
  have f6 : w1.cell? ⟨B, 6, none⟩ = some (.int .u64 ((2 ^ n - 1 : Nat) : Int)) := H1.out.cell 6 rfl
  have f7 : w1.cell? ⟨B, 7, none⟩ = some (.bool sg) := H1.out.cell 7 rfl
  have f11 : w1.cell? ⟨B, 11, none⟩ = some st := H1.out.cell 11 rfl
  have f12 : w1.cell? ⟨B, 12, none⟩ = some ot := H1.out.cell 12 rfl
  have ff := H1.out.free
  have hN : Hid (2 ^ n - 1 < 18446744073709551616) := by
    have : 2 ^ n ≤ 2 ^ 64 := Nat.pow_le_pow_right (by omega) hn
    show 2 ^ n - 1 < 18446744073709551616
    omega
  cases sg
  · go_wp2_with (go_at_call 19; refine (has_any (2 ^ n - 1) hN.out p hp _).mono ?_; rintro e w2 ⟨rfl, rfl⟩)
    go_end0
    exact ⟨rfl, ⟨_, ((H1.out.set 7 _).set 11 _).set 12 _⟩, grown_trans G1 (grown_trans (grown_trans (grown_set _ _ _ _) (grown_set _ _ _ _)) (grown_set _ _ _ _))⟩
  · go_wp2
    go_end0
    exact ⟨rfl, ⟨_, ((H1.out.set 7 _).set 11 _).set 12 _⟩, grown_trans G1 (grown_trans (grown_trans (grown_set _ _ _ _) (grown_set _ _ _ _)) (grown_set _ _ _ _))⟩
