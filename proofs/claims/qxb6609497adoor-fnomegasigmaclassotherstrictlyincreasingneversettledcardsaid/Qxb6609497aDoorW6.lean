/-
  THE WALKS of the class of Omega and Sigma: quorums, slices.Index, other.
-/
import Derived.Test.Qxb6609497aDoorW5
import Derived.Test.Qxb6609497aDoorPlain2
import Derived.Test.Qxb6609497aDoorApp
namespace Go.Proofs.Qxb6609497aDoor
open Go.RowKit

def oscC (n c : Nat) (al pr : Value) : Array Value := #[.int .i64 n, .int .u64 c, .slice none 0 0, al, pr, .nilIface]

set_option maxHeartbeats 400000 in
theorem newOsc_any (n : Nat) (w : World) :
    Calls Tryd.prog 8 #[.int .i64 n] w fun e w' => e = .returned (.pointer (some ⟨w.heap.size, 0, none⟩)) ∧ w' = w.alloc (.cells (oscC n 0 (.slice none 0 0) (.pointer none)) 50) := by
  go_enter Tryd.func8, Tryd.ntmps8
  go_wp2
  go_ret
  exact ⟨rfl, rfl⟩

theorem crashW_osc {w : World} {B n c : Nat} {al pr : Value} (h : Blk w B (oscC n c al pr) 50) (x : Nat) : Blk (crashW w B x) B (oscC n x (.slice none 0 0) (.pointer none)) 50 :=
  (((h.set 1 _).set 3 _).set 4 _).set 5 _

theorem oscCrash_any (B n c p : Nat) (hp : p < 64) (hc : Hid (c < 18446744073709551616)) (w : World) (al pr : Value) (h : Hid (Blk w B (oscC n c al pr) 50)) :
    Calls Tryd.prog 9 #[.pointer (some ⟨B, 0, none⟩), .int .i64 ((p : Int) + 1)] w fun e w' => e = .returned (.tuple #[]) ∧ Blk w' B (oscC n (c ||| 2 ^ p) (.slice none 0 0) (.pointer none)) 50 ∧ w.grownBy w' (some B) := by
  refine (crash_any B c p hp hc w _ _ _ (h.out.cell 1 rfl) (h.out.cell 3 rfl) (h.out.cell 4 rfl) (h.out.cell 5 rfl) h.out.free).mono ?_
  rintro e w1 ⟨rfl, rfl⟩
  exact ⟨rfl, (crashW_osc h.out (c ||| 2 ^ p)).drew, grown_trans (crashW_grown _ _ _) (grown_drew _ _)⟩

set_option maxHeartbeats 400000 in
theorem contains_nil (f : Value) (w : World) :
    Calls Tryd.prog 27 #[.slice none 0 0, f] w fun e w' => e = .returned (.bool false) ∧ w = w' := by
  go_enter Tryd.func27, Tryd.ntmps27
  go_wp2
  refine wp_loop_rounds 1 ?_
  rw [rounds_succ]
  go_wp2
  go_ret
  exact ⟨rfl, rfl⟩

def cells64 (l : List Nat) : List Value := l.map fun p => Value.int .u64 (p : Nat)

set_option maxHeartbeats 400000 in
theorem index_any (L : List Nat) (hL : L.length ≤ 4096) (A x g cap : Nat) (hA : L[A]? = some x) (hne : Hid (∀ j q, j < A → L[j]? = some q → q ≠ x)) (w : World)
    (hcells : Hid (∀ (j q : Nat), L[j]? = some q → w.cell? ⟨g, j, none⟩ = some (.int .u64 q))) :
    Calls Tryd.prog 24 #[.slice (some ⟨g, 0, none⟩) L.length cap, .int .u64 x] w fun e w' => e = .returned (.int .i64 A) ∧ w' = w := by
  have hAl : A < L.length := (List.getElem?_eq_some_iff.1 hA).1
  have HA : Hid (L[A]? = some x) := hA
  clear hA
  go_enter Tryd.func24, Tryd.ntmps24
  go_wp2
  go_loop [8] (fun i => ∃ k : Nat, k ≤ A ∧ i = .int .i64 k) (fun i => A + 1 - (intOf i).toNat)
  case atStart => exact ⟨0, by omega, rfl⟩
  case round =>
    obtain ⟨k, hk, rfl⟩ := hrel
    by_cases hlt : k < A
    · obtain ⟨q, hq⟩ : ∃ q, L[k]? = some q := ⟨_, List.getElem?_eq_getElem (by omega)⟩
      have hcell := hcells.out k q hq
      have hneq : ((x : Int) == (q : Int)) = false := by
        have := hne.out k q hlt hq
        rw [beq_eq_false_iff_ne]; omega
      clear hq
      go_wp2
      go_round
      case rel => exact ⟨k + 1, by omega, by go_num⟩
      case measure => simp [intOf]; omega
    · have e : k = A := by omega
      subst e
      have hcell := hcells.out k x HA.out
      go_wp2
      go_ret
      exact ⟨rfl, rfl⟩

theorem Tryd.info47 : (Tryd.prog.info? 47).map (fun i => (i.zero, i.size, i.bytes)) = some (some (.int .u64 0), 1, 8) := by kernel_rfl

theorem eq48_nil (w : World) : (binOp .eql 48 (.slice none 0 0) (.slice none 0 0)).run Tryd.prog w = .ok (.bool true) w := by kernel_rfl
theorem eq48_some (a : Addr) (n c : Nat) (w : World) : (binOp .eql 48 (.slice (some a) n c) (.slice none 0 0)).run Tryd.prog w = .ok (.bool false) w := by kernel_rfl

/-- What holds at the head of each round of 'quorums': q is k + 1, and of 1 to k those that meet the live set are listed. -/
structure QRel (w : World) (B n c : Nat) (pr : Value) (k bq : Nat) (v : Value) (wr : World) : Prop where
  q : Blk wr bq #[.int .u64 ((k : Int) + 1)] 47
  cls : Blk wr B (oscC n c v pr) 50
  own : wr.ownsRow w.heap.size 47 1 v (Pl.qk (Pl.lv c n) k).length (cells64 (Pl.qk (Pl.lv c n) k))
  apart : v.ownBlock ≠ some bq
  new : w.heap.size ≤ bq
  grown : w.grownBy wr (some B)

theorem QRel.drewN {w : World} {B n c : Nat} {pr : Value} {k bq : Nat} {v : Value} {wr : World} (h : QRel w B n c pr k bq v wr) (m : Nat) : QRel w B n c pr k bq v (wr.drewN m) :=
  ⟨h.q, h.cls, h.own, h.apart, h.new, grown_trans h.grown (grown_drewN _ _ _)⟩

theorem QRel.miss {w : World} {B n c : Nat} {pr : Value} {k bq : Nat} {v : Value} {wr : World} (h : QRel w B n c pr k bq v wr) (hm : (k + 1) &&& Pl.lv c n = 0) :
    QRel w B n c pr (k + 1) wr.heap.size v (wr.alloc (.cells #[.int .u64 ((k : Int) + 1 + 1)] 47)) := by
  refine ⟨blk_new _ _ _, h.cls.alloc _, ?_, ?_, h.grown.size, grown_trans h.grown (World.grownBy_alloc _ _ _)⟩
  · rw [Pl.qk_miss _ _ hm]; exact h.own.alloc _
  · intro e
    have := (h.own.lt _ e).2
    omega

theorem QRel.app {w : World} {B n c : Nat} {pr : Value} {k bq : Nat} {v : Value} {wd : World} (h : QRel w B n c pr k bq v wd) (hB : B < w.heap.size) (o : Obj) {g : Nat} {w' : World}
    (hg : ((wd.alloc o).drew).grownBy w' v.ownBlock) (hp : v.ownBlock = some g ∨ ((wd.alloc o).drew).heap.size ≤ g) :
    Blk w' B (oscC n c v pr) 50 ∧ Blk w' bq #[.int .u64 ((k : Int) + 1)] 47 ∧ g ≠ bq ∧ g ≠ B ∧ w.grownBy w' (some B) := by
  have hs := h.grown.size
  have hbq := h.q.lt
  have hsz : ((wd.alloc o).drew).heap.size = wd.heap.size + 1 := by simp
  refine ⟨?_, ?_, ?_, ?_, ?_⟩
  · refine Blk.grown ((h.cls.alloc o).drew) hg (fun e => ?_)
    have := (h.own.lt B e.symm).1
    omega
  · exact Blk.grown ((h.q.alloc o).drew) hg (fun e => h.apart e.symm)
  · rintro rfl
    rcases hp with hp | hp
    · exact h.apart hp
    · omega
  · rintro rfl
    rcases hp with hp | hp
    · have := (h.own.lt _ hp).1; omega
    · omega
  · refine ⟨hg.os.trans h.grown.os, hg.tape.trans h.grown.tape, hg.output.trans h.grown.output, by have := hg.size; omega, fun i hi hne => ?_⟩
    rw [hg.block i (by omega) (fun e => by have := (h.own.lt i e.symm).1; omega)]
    exact (Below.heap_alloc wd o i (by omega)).trans (h.grown.block i hi hne)

theorem QRel.ne {w : World} {B n c : Nat} {pr : Value} {k bq : Nat} {v : Value} {wr : World} (h : QRel w B n c pr k bq v wr) (hB : B < w.heap.size) : bq ≠ B := by have := h.new; omega

theorem QRel.hit {w : World} {B n c : Nat} {pr : Value} {k : Nat} {v0 : Value} {w' : World} {g cap : Nat} (hm : ¬ (k + 1) &&& Pl.lv c n = 0)
    (hown : w'.ownsRow w.heap.size 47 1 (.slice (some ⟨g, 0, none⟩) ((Pl.qk (Pl.lv c n) k).length + 1) cap) ((Pl.qk (Pl.lv c n) k).length + 1) (cells64 (Pl.qk (Pl.lv c n) k) ++ [.int .u64 ((k : Int) + 1)]))
    (hcB : Blk w' B (oscC n c v0 pr) 50) (hgB : g ≠ B) (hgr : w.grownBy w' (some B)) :
    QRel w B n c pr (k + 1) w'.heap.size (.slice (some ⟨g, 0, none⟩) ((Pl.qk (Pl.lv c n) k).length + 1) cap)
      ((w'.setCell ⟨B, 3, none⟩ (.slice (some ⟨g, 0, none⟩) ((Pl.qk (Pl.lv c n) k).length + 1) cap)).alloc (.cells #[.int .u64 ((k : Int) + 1 + 1)] 47)) := by
  refine ⟨?_, (hcB.set 3 _).alloc _, ?_, ?_, hgr.size, grown_trans hgr (grown_trans (grown_set _ _ _ _) (World.grownBy_alloc _ _ _))⟩
  · have := blk_new (w'.setCell ⟨B, 3, none⟩ (.slice (some ⟨g, 0, none⟩) ((Pl.qk (Pl.lv c n) k).length + 1) cap)) #[.int .u64 ((k : Int) + 1 + 1)] 47
    rwa [World.size_setCell] at this
  · have e1 : (Pl.qk (Pl.lv c n) (k + 1)).length = (Pl.qk (Pl.lv c n) k).length + 1 := by rw [Pl.qk_hit _ _ hm]; simp
    have e2 : cells64 (Pl.qk (Pl.lv c n) (k + 1)) = cells64 (Pl.qk (Pl.lv c n) k) ++ [.int .u64 ((k : Int) + 1)] := by rw [Pl.qk_hit _ _ hm]; simp [cells64]
    rw [e1, e2]
    exact World.ownsRow.alloc (ownsRow_setCell_other hown (by simpa [Value.ownBlock] using hgB) _) _
  · intro e
    have := (hown.lt _ e).2
    omega

/-- The number in the cell behind a pointer: the loop's measure. -/
def qOf (t : Value) (w : World) : Nat := match t with
  | .pointer (some a) => ((w.cell? a).map fun v => (intOf v).toNat).getD 0
  | _ => 0
theorem qOf_at {w : World} {b : Nat} {x : Int} (h : Blk w b #[.int .u64 x] 47) : qOf (.pointer (some ⟨b, 0, none⟩)) w = x.toNat := by
  have h0 : w.cell? ⟨b, 0, none⟩ = some (.int .u64 x) := h.cell 0 rfl
  simp [qOf, h0, intOf]

theorem meet_val (k m : Nat) (hk : k + 1 < 18446744073709551616) (hm : m < 18446744073709551616) : bits BinOp.and IntKind.u64 ((k : Int) + 1) (m : Int) = (((k + 1) &&& m : Nat) : Int) := by
  have := bits_and_u64_nat (k + 1) m hk hm
  simpa using this
theorem meet_yes (k m : Nat) (hk : k + 1 < 18446744073709551616) (hm : m < 18446744073709551616) (h : ¬ (k + 1) &&& m = 0) : (bits BinOp.and IntKind.u64 ((k : Int) + 1) (m : Int) != 0) = true := by
  rw [meet_val k m hk hm, bne_iff_ne]; omega
theorem meet_no (k m : Nat) (hk : k + 1 < 18446744073709551616) (hm : m < 18446744073709551616) (h : (k + 1) &&& m = 0) : (bits BinOp.and IntKind.u64 ((k : Int) + 1) (m : Int) != 0) = false := by
  rw [meet_val k m hk hm, h]; rfl

set_option maxHeartbeats 1000000 in
theorem quorums_new (B n c : Nat) (hn : n ≤ 12) (hc : Hid (c < 18446744073709551616)) (hlw : Hid (Pl.lw c n ≠ 0)) (w : World) (pr : Value) (h : Hid (Blk w B (oscC n c (.slice none 0 0) pr) 50)) :
    Calls Tryd.prog 21 #[.pointer (some ⟨B, 0, none⟩)] w fun e w' => ∃ g cap, e = .returned (.slice (some ⟨g, 0, none⟩) (Pl.qk (Pl.lv c n) (2 ^ n - 1)).length cap) ∧
      Blk w' B (oscC n c (.slice (some ⟨g, 0, none⟩) (Pl.qk (Pl.lv c n) (2 ^ n - 1)).length cap) pr) 50 ∧
      w'.ownsRow w.heap.size 47 1 (.slice (some ⟨g, 0, none⟩) (Pl.qk (Pl.lv c n) (2 ^ n - 1)).length cap) (Pl.qk (Pl.lv c n) (2 ^ n - 1)).length (cells64 (Pl.qk (Pl.lv c n) (2 ^ n - 1))) ∧ w.grownBy w' (some B) := by
  obtain ⟨i0, hi, hz0, hz1, hz2⟩ := info_parts Tryd.info47
  have hB : B < w.heap.size := h.out.lt
  have f0 : w.cell? ⟨B, 0, none⟩ = some (.int .i64 n) := h.out.cell 0 rfl
  have f1 : w.cell? ⟨B, 1, none⟩ = some (.int .u64 c) := h.out.cell 1 rfl
  have f3 : w.cell? ⟨B, 3, none⟩ = some (.slice none 0 0) := h.out.cell 3 rfl
  have hnil := eq48_nil
  go_enter Tryd.func21, Tryd.ntmps21
  go_wp2_with fail
  refine (live_any B n c (by omega) _ f0 f1 hc).mono ?_
  rintro e w1 ⟨rfl, kk, hkk⟩
  have H1 : Hid (Blk w1 B (oscC n c (.slice none 0 0) pr) 50) := by rw [hkk]; exact h.out
  have G1 : w.grownBy w1 (some B) := by rw [hkk]; exact grown_drewN _ _ _
  clear hkk
  have hz1 := G1.size
  go_wp2_with fail
  have hR : QRel w B n c pr 0 w1.heap.size (.slice none 0 0) (w1.alloc (.cells #[.int .u64 1] 47)) :=
    ⟨blk_new _ _ _, H1.out.alloc _, World.ownsRow_nil _ _ _ _, by simp [Value.ownBlock], hz1, grown_trans G1 (World.grownBy_alloc _ _ _)⟩
  clear f0 f1 f3 h hnil H1
  go_loopw [4] (fun t wr => ∃ (k bq : Nat) (v : Value), k ≤ 2 ^ n - 1 ∧ t = .pointer (some ⟨bq, 0, none⟩) ∧ QRel w B n c pr k bq v wr) (fun t wr => 2 ^ n - qOf t wr)
  case atStart => exact ⟨0, w1.heap.size, _, Nat.zero_le _, rfl, hR⟩
  case round =>
    obtain ⟨k, bq, v, hk, rfl, hQ⟩ := hrel
    clear hR G1 hz1
    have hp12 := Pl.pow_le n hn
    have hp0 := Nat.two_pow_pos n
    obtain ⟨ao, cap, rfl⟩ : ∃ ao cap, v = .slice ao (Pl.qk (Pl.lv c n) k).length cap := by
      rcases hQ.own.2 with ⟨e, e0⟩ | ⟨g, cap, _, e, _⟩
      · exact ⟨none, 0, by rw [e, e0]⟩
      · exact ⟨some ⟨g, 0, none⟩, cap, e⟩
    have hl := Pl.qk_len (Pl.lv c n) k
    have q0 : wr.cell? ⟨bq, 0, none⟩ = some (.int .u64 ((k : Int) + 1)) := hQ.q.cell 0 rfl
    have qf := hQ.q.free
    have f0 : wr.cell? ⟨B, 0, none⟩ = some (.int .i64 n) := hQ.cls.cell 0 rfl
    have f2 : wr.cell? ⟨B, 2, none⟩ = some (.slice none 0 0) := hQ.cls.cell 2 rfl
    have f3 : wr.cell? ⟨B, 3, none⟩ = some (.slice ao (Pl.qk (Pl.lv c n) k).length cap) := hQ.cls.cell 3 rfl
    have ff := hQ.cls.free
    have hnz : ((k : Int) + 1 != 0) = true := by rw [bne_iff_ne]; omega
    by_cases hlt : k < 2 ^ n - 1
    · have hle : (k : Int) + 1 ≤ ((2 ^ n - 1 : Nat) : Int) := by omega
      go_wp2_with fail
      go_quiet ((go_at_call 18; exact Calls.quiet_of_same (upTo_any _ (by omega) _)))
      have hQd := hQ.drewN nq
      have HQ0 : Hid (qOf (.pointer (some ⟨bq, 0, none⟩)) wr = k + 1) := by rw [Hid, qOf_at hQ.q]; omega
      clear hQ q0 qf f0 f2 f3 ff
      generalize wr.drewN nq = wd at *
      have q0 : wd.cell? ⟨bq, 0, none⟩ = some (.int .u64 ((k : Int) + 1)) := hQd.q.cell 0 rfl
      have qf := hQd.q.free
      have f2 : wd.cell? ⟨B, 2, none⟩ = some (.slice none 0 0) := hQd.cls.cell 2 rfl
      have f3 : wd.cell? ⟨B, 3, none⟩ = some (.slice ao (Pl.qk (Pl.lv c n) k).length cap) := hQd.cls.cell 3 rfl
      have ff := hQd.cls.free
      have dB : B < wd.heap.size := hQd.cls.lt
      have dq : bq < wd.heap.size := hQd.q.lt
      by_cases hm : (k + 1) &&& Pl.lv c n = 0
      · have ht := meet_no k (Pl.lv c n) (by omega) (Pl.lv_lt c n (by omega)) hm
        have HM : Hid ((k + 1) &&& Pl.lv c n = 0) := hm
        clear hm
        go_wp2
        go_roundw
        case rel => exact ⟨k + 1, _, _, by omega, rfl, hQd.miss HM.out⟩
        case measure => rw [HQ0.out, qOf_at (blk_new wd _ _)]; omega
      · have ht := meet_yes k (Pl.lv c n) (by omega) (Pl.lv_lt c n (by omega)) hm
        have HM : Hid (¬ (k + 1) &&& Pl.lv c n = 0) := hm
        clear hm
        go_wp2_with (go_at_call 27; refine (contains_nil _ _).mono ?_; rintro e wx ⟨rfl, rfl⟩)
        go_region_law (refine step_append_place rfl (.tmp 42) (.tmp 44) 48 rfl w.heap.size 47 i0 (.int .u64 0) 1 8 Tryd.underlying48 hi hz0 hz1 hz2 rfl (by decide) (.slice ao (Pl.qk (Pl.lv c n) k).length cap) _ (cells64 (Pl.qk (Pl.lv c n) k)) rfl (hQd.own.alloc _).drew ⟨_, 0, none⟩ 1 1 [.int .u64 ((k : Int) + 1)] rfl rfl (cell_one_new _ _ _) (by simp [Value.oneCell']) (by decide) (by unfold maxLen; omega) (by omega) (by have := hQd.grown.size; simp; omega) ?_; intro g cap' w' hown' hgrow' hplace; obtain ⟨hcB, hcq, hgq, hgB, hgr⟩ := hQd.app hB _ hgrow' hplace; have x3 : w'.cell? ⟨B, 3, none⟩ = some (.slice ao (Pl.qk (Pl.lv c n) k).length cap) := hcB.cell 3 rfl; have xf := hcB.free; have xq : w'.cell? ⟨bq, 0, none⟩ = some (.int .u64 ((k : Int) + 1)) := hcq.cell 0 rfl; have xl : bq < w'.heap.size := hcq.lt; have xB : B < w'.heap.size := hcB.lt; have xne : bq ≠ B := hQd.ne hB)
        all_goals
          clear hgrow' hplace hcq hgq
          go_wp2
          go_roundw
          case rel => exact ⟨k + 1, _, _, by omega, rfl, QRel.hit HM.out hown' hcB hgB hgr⟩
          case measure =>
            have := blk_new (w'.setCell ⟨B, 3, none⟩ (.slice (some ⟨g, 0, none⟩) ((Pl.qk (Pl.lv c n) k).length + 1) cap')) #[.int .u64 ((k : Int) + 1 + 1)] 47
            rw [World.size_setCell] at this
            rw [HQ0.out, qOf_at this]; omega
    · have hd : decide ((k : Int) + 1 ≤ ((2 ^ n - 1 : Nat) : Int)) = false := by rw [decide_eq_false_iff_not]; omega
      have e : k = 2 ^ n - 1 := by omega
      have hne : Pl.qk (Pl.lv c n) k ≠ [] := by
        rw [e]; exact Pl.qk_live_ne c n (by omega) hlw.out
      rcases hQ.own.2 with ⟨_, e0⟩ | ⟨g, cap2, _, e2, _⟩
      · exact absurd (List.eq_nil_of_length_eq_zero e0) hne
      · cases e2
        have HQ : Hid (QRel w B n c pr k bq (.slice (some ⟨g, 0, none⟩) (Pl.qk (Pl.lv c n) k).length cap) wr) := hQ
        have HE : Hid (k = 2 ^ n - 1) := e
        clear hQ e hne hlt hk hl
        go_wp2_with fail
        go_quiet ((go_at_call 18; exact Calls.quiet_of_same (upTo_any _ (by omega) _)))
        go_wp2
        go_ret
        rw [← HE.out]
        exact ⟨g, cap, rfl, HQ.out.cls, HQ.out.own, grown_trans HQ.out.grown (grown_drewN _ _ _)⟩
end Go.Proofs.Qxb6609497aDoor
