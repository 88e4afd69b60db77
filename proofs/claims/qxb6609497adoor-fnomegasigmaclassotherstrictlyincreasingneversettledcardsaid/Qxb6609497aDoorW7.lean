/-
  THE WALK of 'other': the i-th pair, the settled one struck out.
-/
import Derived.Test.Qxb6609497aDoorW6
namespace Go.Proofs.Qxb6609497aDoor
open Go.RowKit

/-- The quorums that may be given. -/
def QL (c n : Nat) : List Nat := Pl.qk (Pl.lv c n) (2 ^ n - 1)

/-- The class between two calls: its list and its settled pair not yet made, or made. -/
structure Osc (B n c C : Nat) (al pr : Value) (w : World) : Prop where
  cls : Blk w B (oscC n c al pr) 50
  qs : al = .slice none 0 0 ∨ ∃ g cap, al = .slice (some ⟨g, 0, none⟩) (QL c n).length cap ∧ w.ownsRow C 47 1 al (QL c n).length (cells64 (QL c n))
  pair : pr = .pointer none ∨ ∃ b v, pr = .pointer (some ⟨b, 0, none⟩) ∧ C ≤ b ∧ Blk w b #[.int .i64 (Pl.lw c n), v] 33

theorem Osc.alloc {B n c C : Nat} {al pr : Value} {w : World} (h : Osc B n c C al pr w) (o : Obj) : Osc B n c C al pr (w.alloc o) := by
  refine ⟨h.cls.alloc o, ?_, ?_⟩
  · rcases h.qs with e | ⟨g, cap, e, ho⟩
    · exact .inl e
    · exact .inr ⟨g, cap, e, ho.alloc o⟩
  · rcases h.pair with e | ⟨b, v, e, hC, hb⟩
    · exact .inl e
    · exact .inr ⟨b, v, e, hC, hb.alloc o⟩

theorem Osc.same {B n c C : Nat} {al pr : Value} {w w' : World} (h : Osc B n c C al pr w) (e : w'.heap = w.heap) : Osc B n c C al pr w' := by
  refine ⟨by unfold Blk; rw [e]; exact h.cls, ?_, ?_⟩
  · rcases h.qs with e' | ⟨g, cap, e', ho⟩
    · exact .inl e'
    · exact .inr ⟨g, cap, e', by unfold World.ownsRow at ho ⊢; rw [e]; exact ho⟩
  · rcases h.pair with e' | ⟨b, v, e', hC, hb⟩
    · exact .inl e'
    · exact .inr ⟨b, v, e', hC, by unfold Blk; rw [e]; exact hb⟩

set_option maxHeartbeats 400000 in
theorem quorums_old (B n c g len cap : Nat) (pr : Value) (w : World) (h : Hid (Blk w B (oscC n c (.slice (some ⟨g, 0, none⟩) len cap) pr) 50)) :
    Calls Tryd.prog 21 #[.pointer (some ⟨B, 0, none⟩)] w fun e w' => e = .returned (.slice (some ⟨g, 0, none⟩) len cap) ∧ w' = w := by
  have f3 : w.cell? ⟨B, 3, none⟩ = some (.slice (some ⟨g, 0, none⟩) len cap) := h.out.cell 3 rfl
  have hnil := eq48_some
  go_enter Tryd.func21, Tryd.ntmps21
  go_wp2
  go_ret
  exact ⟨rfl, rfl⟩

theorem quorums_any (B n c C : Nat) (hn : n ≤ 12) (hc : Hid (c < 18446744073709551616)) (hlw : Hid (Pl.lw c n ≠ 0)) (w : World) (al pr : Value) (hC : C ≤ w.heap.size) (hBC : B < C) (h : Hid (Osc B n c C al pr w)) :
    Calls Tryd.prog 21 #[.pointer (some ⟨B, 0, none⟩)] w fun e w' => ∃ g cap, e = .returned (.slice (some ⟨g, 0, none⟩) (QL c n).length cap) ∧
      Osc B n c C (.slice (some ⟨g, 0, none⟩) (QL c n).length cap) pr w' ∧ w.grownBy w' (some B) := by
  rcases h.out.qs with rfl | ⟨g, cap, rfl, ho⟩
  · refine (quorums_new B n c hn hc hlw w pr h.out.cls).mono ?_
    rintro e w' ⟨g, cap, rfl, hcls, hown, hg⟩
    refine ⟨g, cap, rfl, ⟨hcls, .inr ⟨g, cap, rfl, owns_base hown hC⟩, ?_⟩, hg⟩
    rcases h.out.pair with e | ⟨b, v, e, hCb, hb⟩
    · exact .inl e
    · exact .inr ⟨b, v, e, hCb, hb.grown hg (fun e => by cases e; omega)⟩
  · refine (quorums_old B n c g _ cap pr w h.out.cls).mono ?_
    rintro e w' ⟨rfl, rfl⟩
    exact ⟨g, cap, rfl, h.out, World.grownBy.refl _ _⟩

set_option maxHeartbeats 400000 in
theorem settled_old (B n c b : Nat) (al : Value) (w : World) (h : Hid (Blk w B (oscC n c al (.pointer (some ⟨b, 0, none⟩))) 50)) :
    Calls Tryd.prog 23 #[.pointer (some ⟨B, 0, none⟩)] w fun e w' => e = .returned (.pointer (some ⟨b, 0, none⟩)) ∧ w' = w := by
  have f4 : w.cell? ⟨B, 4, none⟩ = some (.pointer (some ⟨b, 0, none⟩)) := h.out.cell 4 rfl
  go_enter Tryd.func23, Tryd.ntmps23
  go_wp2
  go_ret
  exact ⟨rfl, rfl⟩

theorem settled_any (B n c C : Nat) (hn : n ≤ 12) (hc : Hid (c < 18446744073709551616)) (hlw : Hid (Pl.lw c n ≠ 0)) (w : World) (al pr : Value) (hC : C ≤ w.heap.size) (hBC : B < C) (hT : Hid (TabAt w)) (h : Hid (Osc B n c C al pr w)) :
    Calls Tryd.prog 23 #[.pointer (some ⟨B, 0, none⟩)] w fun e w' => ∃ b, e = .returned (.pointer (some ⟨b, 0, none⟩)) ∧
      w'.cell? ⟨b, 0, none⟩ = some (.int .i64 (Pl.lw c n)) ∧ Hid (Osc B n c C al (.pointer (some ⟨b, 0, none⟩)) w') ∧ w.grownBy w' (some B) := by
  rcases h.out.pair with rfl | ⟨b, v, rfl, hCb, hb⟩
  · refine (settled_new B n c (by omega) hc hlw w h.out.cls.lt hT (h.out.cls.cell 0 rfl) (h.out.cls.cell 1 rfl) (h.out.cls.cell 4 rfl) h.out.cls.free).mono ?_
    rintro e w' ⟨b, v, rfl, hb1, hblk, _, hkeep, hg⟩
    refine ⟨b, rfl, hblk.cell 0 rfl, ⟨hkeep _ _ h.out.cls, ?_, .inr ⟨b, v, rfl, by omega, hblk⟩⟩, hg⟩
    rcases h.out.qs with e | ⟨g, cap, e, ho⟩
    · exact .inl e
    · exact .inr ⟨g, cap, e, owns_kept ho hg hBC⟩
  · refine (settled_old B n c b al w h.out.cls).mono ?_
    rintro e w' ⟨rfl, rfl⟩
    exact ⟨b, rfl, hb.cell 0 rfl, h.out, World.grownBy.refl _ _⟩

/-- Where the live set stands among the quorums; the number of the settled pair. -/
def LA (c n : Nat) : Nat := (Pl.qk (Pl.lv c n) (Pl.lv c n - 1)).length
def SN (c n : Nat) : Nat := (Pl.lw c n - 1) * (QL c n).length + LA c n

theorem LA_at (c n : Nat) (hn : n ≤ 64) (h : Pl.lw c n ≠ 0) : (QL c n)[LA c n]? = some (Pl.lv c n) := by
  obtain ⟨h1, h2, h3⟩ := Pl.live_in c n hn h
  have := Pl.qk_at (Pl.lv c n) (Pl.lv c n - 1) (2 ^ n - 1) h1 h3
  rw [h2] at this
  exact this

theorem LA_first (c n : Nat) (hn : n ≤ 64) (h : Pl.lw c n ≠ 0) : ∀ j q, j < LA c n → (QL c n)[j]? = some q → q ≠ Pl.lv c n := by
  intro j q hj hq e
  have := Pl.qk_rise _ _ j (LA c n) q _ hq (LA_at c n hn h) hj
  omega

theorem QL_len (c n : Nat) (hn : n ≤ 12) : (QL c n).length ≤ 4095 := by
  have h1 := Pl.qk_len (Pl.lv c n) (2 ^ n - 1)
  have h2 := Pl.pow_le n hn
  unfold QL
  omega

theorem LA_lt (c n : Nat) (hn : n ≤ 64) (h : Pl.lw c n ≠ 0) : LA c n < (QL c n).length := (List.getElem?_eq_some_iff.1 (LA_at c n hn h)).1

theorem owns_cells64 {w : World} {C g cap : Nat} {l : List Nat} (h : w.ownsRow C 47 1 (.slice (some ⟨g, 0, none⟩) l.length cap) l.length (cells64 l)) : ∀ (j q : Nat), l[j]? = some q → w.cell? ⟨g, j, none⟩ = some (.int .u64 q) := by
  intro j q hq
  have := h.cells (g := g) rfl j (.int .u64 q) (by simp [cells64, hq])
  rwa [Addr.add_lit, Nat.zero_add] at this

theorem Osc.rows {B n c C g cap : Nat} {pr : Value} {w : World} (h : Osc B n c C (.slice (some ⟨g, 0, none⟩) (QL c n).length cap) pr w) : w.ownsRow C 47 1 (.slice (some ⟨g, 0, none⟩) (QL c n).length cap) (QL c n).length (cells64 (QL c n)) := by
  rcases h.qs with e | ⟨g', cap', e, ho⟩
  · cases e
  · exact ho

theorem QL_pos (c n : Nat) (x q : Nat) (h : (QL c n)[x]? = some q) : 0 < q ∧ q ≤ 2 ^ n - 1 ∧ ¬ q &&& Pl.lv c n = 0 := by
  obtain ⟨j, rfl, hj, h1, _⟩ := Pl.qk_mem _ _ x q h
  exact ⟨by omega, by omega, h1⟩

theorem QL_lt (c n : Nat) (hn : n ≤ 12) (x q : Nat) (h : (QL c n)[x]? = some q) : q < 18446744073709551616 := by
  have h1 := QL_pos c n x q h
  have h2 := Pl.pow_le n hn
  omega

theorem QL_ml (c n : Nat) (hn : n ≤ 12) (x q : Nat) (h : (QL c n)[x]? = some q) : Pl.ml q ≠ [] := by
  have h1 := QL_pos c n x q h
  rw [(Pl.ml_step q (by omega) (QL_lt c n hn x q h)).1]
  simp

theorem Osc.below {B n c C : Nat} {al pr : Value} {w w' : World} (h : Osc B n c C al pr w) (hb : Below w.heap.size w w') : Osc B n c C al pr w' := by
  refine ⟨h.cls.below hb h.cls.lt, ?_, ?_⟩
  · rcases h.qs with e | ⟨g, cap, e, ho⟩
    · exact .inl e
    · refine .inr ⟨g, cap, e, ho.kept (grown_below hb none) ?_⟩
      cases al.ownBlock <;> simp
  · rcases h.pair with e | ⟨b, v, e, hC, hbk⟩
    · exact .inl e
    · exact .inr ⟨b, v, e, hC, hbk.below hb hbk.lt⟩

/-- A store into the result's block, which is none of the class's. -/
theorem Osc.grownN {B n c C N : Nat} {al pr : Value} {w w' : World} (h : Osc B n c C al pr w) (hN : Blk w N #[.int .i64 0, .slice none 0 0] 33) (hlw : Pl.lw c n ≠ 0) (hg : w.grownBy w' (some N)) : Osc B n c C al pr w' := by
  refine ⟨h.cls.grown hg ?_, ?_, ?_⟩
  · intro e
    cases e
    have := h.cls.symm.trans hN
    simp at this
  · rcases h.qs with e | ⟨g, cap, e, ho⟩
    · exact .inl e
    · refine .inr ⟨g, cap, e, ho.kept hg (.inr ?_)⟩
      intro e2
      rcases ho.2 with ⟨e3, _⟩ | ⟨g', cap', cur, e3, _, hh, _⟩
      · rw [e3] at e2; simp [Value.ownBlock] at e2
      · rw [e3] at e2
        simp [Value.ownBlock] at e2
        subst e2
        have := hh.symm.trans hN
        simp at this
  · rcases h.pair with e | ⟨b, v, e, hC, hbk⟩
    · exact .inl e
    · refine .inr ⟨b, v, e, hC, hbk.grown hg ?_⟩
      intro e2
      cases e2
      have := hbk.symm.trans hN
      simp at this
      exact hlw (by omega)

theorem other_end {B n c C N g5 cap5 : Nat} {x y : Value} {al pr : Value} {l : List Nat} {w w4 w5 : World} (hN : N = w.heap.size) (hlw : Pl.lw c n ≠ 0) (hO : Osc B n c C al pr w4) (hN4 : Blk w4 N #[.int .i64 0, .slice none 0 0] 33) (hG : w.grownBy w4 (some B))
    (hb : Below w4.drew.heap.size w4.drew w5) (hown : w5.ownsRow w4.drew.heap.size 3 1 (.slice (some ⟨g5, 0, none⟩) l.length cap5) l.length (cells l)) :
    ((w5.setCell ⟨N, 0, none⟩ x).setCell ⟨N, 1, none⟩ y).ownsRow w.heap.size 3 1 (.slice (some ⟨g5, 0, none⟩) l.length cap5) l.length (cells l) ∧ Osc B n c C al pr ((w5.setCell ⟨N, 0, none⟩ x).setCell ⟨N, 1, none⟩ y) ∧ w.grownBy ((w5.setCell ⟨N, 0, none⟩ x).setCell ⟨N, 1, none⟩ y) (some B) := by
  have hlt : N < w4.drew.heap.size := hN4.lt
  have hs : w.heap.size ≤ w4.drew.heap.size := hG.size
  have hN5 : Blk w5 N #[.int .i64 0, .slice none 0 0] 33 := Blk.below (w := w4.drew) hN4 hb hlt
  have hO5 : Osc B n c C al pr w5 := Osc.below (w := w4.drew) (hO.same rfl) hb
  have g1 : w5.grownBy ((w5.setCell ⟨N, 0, none⟩ x).setCell ⟨N, 1, none⟩ y) (some N) := grown_trans (grown_set _ _ _ _) (grown_set _ _ _ _)
  refine ⟨owns_base (owns_kept hown g1 hlt) hs, hO5.grownN hN5 hlw g1, ?_⟩
  exact grown_new (grown_trans (grown_trans hG (grown_drew _ _)) (grown_below hb _)) g1 (by omega)

theorem wrap_i64' (x : Int) : IntKind.i64.wrap x = (x + 9223372036854775808) % 18446744073709551616 - 9223372036854775808 := by
  simp [IntKind.wrap, IntKind.bits, IntKind.signed]
  split <;> omega
theorem i64_quo' (x y : Int) (h : 0 ≤ x ∧ x ≤ 9223372036854775807 ∧ 1 ≤ y) : IntKind.i64.wrap (x.tdiv y) = x / y := by
  have h1 : x.tdiv y = x / y := Int.tdiv_eq_ediv_of_nonneg h.1
  have h2 : 0 ≤ x / y := Int.ediv_nonneg h.1 (by omega)
  have h3 : x / y ≤ x := Int.ediv_le_self _ h.1
  rw [h1, wrap_i64']; omega

theorem index_two (L : List Nat) (hL : L.length ≤ 4096) (A x g cap : Nat) (hA : L[A]? = some x) (hne : Hid (∀ j q, j < A → L[j]? = some q → q ≠ x)) (w : World)
    (hcells : Hid (∀ (j q : Nat), L[j]? = some q → w.cell? ⟨g, j, none⟩ = some (.int .u64 q))) :
    Calls Tryd.prog 24 #[.slice (some ⟨g, 0, none⟩) L.length cap, .int .u64 x] w fun e w' => e = .returned (.int .i64 A) ∧ w = w' :=
  (index_any L hL A x g cap hA hne w hcells).mono fun _ _ ⟨a, b⟩ => ⟨a, b.symm⟩

set_option maxHeartbeats 2000000 in
theorem other_any (B n c C i : Nat) (hn : n ≤ 12) (hc : Hid (c < 18446744073709551616)) (hlw : Hid (Pl.lw c n ≠ 0)) (hi : i ≤ 60000) (w : World) (al pr : Value) (hC : C ≤ w.heap.size) (hBC : B < C) (hB0 : 0 < B) (hT : Hid (TabAt w)) (h : Hid (Osc B n c C al pr w)) (q : Nat)
    (hq : Hid ((QL c n)[Pl.skip (SN c n) i % (QL c n).length]? = some q)) :
    Calls Tryd.prog 16 #[.pointer (some ⟨B, 0, none⟩), .int .i64 i] w fun e w' => ∃ g cap al' pr', e = .returned (.agg #[.int .i64 ((1 + Pl.skip (SN c n) i / (QL c n).length : Nat) : Int), .slice (some ⟨g, 0, none⟩) (Pl.ml q).length cap]) ∧
      w'.ownsRow w.heap.size 3 1 (.slice (some ⟨g, 0, none⟩) (Pl.ml q).length cap) (Pl.ml q).length (cells (Pl.ml q)) ∧ Osc B n c C al' pr' w' ∧ w.grownBy w' (some B) := by
  have hz : B < w.heap.size := h.out.cls.lt
  go_enter Tryd.func16, Tryd.ntmps16
  go_wp2_with fail
  obtain ⟨W1, hW1⟩ : ∃ W1, W1 = w.alloc (.cells #[.int .i64 0, .slice none 0 0] 33) := ⟨_, rfl⟩
  rw [← hW1]
  have O1 : Hid (Osc B n c C al pr W1) := by rw [hW1]; exact h.out.alloc _
  have N1 : Hid (Blk W1 w.heap.size #[.int .i64 0, .slice none 0 0] 33) := by rw [hW1]; exact blk_new _ _ _
  have G1 : w.grownBy W1 (some B) := by rw [hW1]; exact World.grownBy_alloc _ _ _
  clear hW1
  have hz1 := G1.size
  refine (quorums_any B n c C hn hc hlw W1 al pr (by omega) hBC O1).mono ?_
  rintro e w2 ⟨g, cap, rfl, hO2, hg2⟩
  have O2 : Hid (Osc B n c C (.slice (some ⟨g, 0, none⟩) (QL c n).length cap) pr w2) := hO2
  have N2 : Hid (Blk w2 w.heap.size #[.int .i64 0, .slice none 0 0] 33) := N1.out.grown hg2 (fun e => by cases e; omega)
  have G2 : w.grownBy w2 (some B) := grown_trans G1 hg2
  clear hO2 hg2 G1 N1 O1 h
  have hz2 := G2.size
  go_wp2_with fail
  refine (live_any B n c (by omega) _ (O2.out.cls.cell 0 rfl) (O2.out.cls.cell 1 rfl) hc).mono ?_
  rintro e w3 ⟨rfl, kk, hkk⟩
  have O3 : Hid (Osc B n c C (.slice (some ⟨g, 0, none⟩) (QL c n).length cap) pr w3) := O2.out.same (by rw [hkk]; rfl)
  have N3 : Hid (Blk w3 w.heap.size #[.int .i64 0, .slice none 0 0] 33) := by rw [hkk]; exact N2.out
  have G3 : w.grownBy w3 (some B) := by rw [hkk]; exact grown_trans G2 (grown_drewN _ _ _)
  clear hkk O2 N2 G2 hz2
  have hz3 := G3.size
  go_wp2_with fail
  have O3d : Hid (Osc B n c C (.slice (some ⟨g, 0, none⟩) (QL c n).length cap) pr w3.drew) := O3.out.same rfl
  have T3d : Hid (TabAt w3.drew) := hT.out.grown (by omega) (grown_trans G3 (grown_drew _ _)) hB0
  have N3d : Hid (Blk w3.drew w.heap.size #[.int .i64 0, .slice none 0 0] 33) := N3.out
  have hC3 : C ≤ w3.drew.heap.size := by show C ≤ w3.heap.size; omega
  have HAt : Hid ((QL c n)[LA c n]? = some (Pl.lv c n)) := LA_at c n (by omega) hlw.out
  have HFi : Hid (∀ j q, j < LA c n → (QL c n)[j]? = some q → q ≠ Pl.lv c n) := LA_first c n (by omega) hlw.out
  have hK := QL_len c n hn
  have hlA := LA_lt c n (by omega) hlw.out
  have hlw1 : 1 ≤ Pl.lw c n := Nat.one_le_iff_ne_zero.2 hlw.out
  have hlw2 : Pl.lw c n ≤ n := Pl.lw_le c n
  obtain ⟨P, hP⟩ : ∃ P, P = (Pl.lw c n - 1) * (QL c n).length := ⟨_, rfl⟩
  have hPb : P ≤ 45045 := by rw [hP]; exact Nat.mul_le_mul (show Pl.lw c n - 1 ≤ 11 by omega) hK
  have hmul : ((Pl.lw c n : Int) - 1) * ((QL c n).length : Int) = (P : Int) := by rw [hP]; rw [Int.natCast_mul]; congr 1; omega
  have HP : Hid (P = (Pl.lw c n - 1) * (QL c n).length) := hP
  clear hP O3 N3
  go_region_with (first | (go_at_call 23; refine (settled_any B n c C hn hc hlw _ _ pr hC3 hBC T3d O3d).mono ?_; rintro e w4 ⟨b, rfl, hcell, hO4, hg4⟩) | (go_at_call 24; refine (index_two (QL c n) (by omega) (LA c n) (Pl.lv c n) g cap HAt.out HFi _ (owns_cells64 hO4.out.rows)).mono ?_; rintro e wx ⟨rfl, rfl⟩))
  all_goals
    have hKp : 0 < (QL c n).length := by omega
    have G4 : w.grownBy w4 (some B) := grown_trans (grown_trans G3 (grown_drew _ _)) hg4
    have N4 : Hid (Blk w4 w.heap.size #[.int .i64 0, .slice none 0 0] 33) := N3d.out.grown hg4 (fun e => by cases e; omega)
    have hz4 := G4.size
    clear hcell hg4 O3d T3d N3d hC3
    by_cases hge : P + LA c n ≤ i
    · have hge' : (P : Int) + (LA c n : Int) ≤ (i : Int) := by omega
      have hsk : Pl.skip (SN c n) i = i + 1 := by unfold Pl.skip SN; rw [← HP.out, if_pos hge]
      rw [hsk] at hq
      have HSK : Hid (Pl.skip (SN c n) i = i + 1) := hsk
      clear hsk
      go_wp2_with fail
      clear hmul
      obtain ⟨x, hx⟩ : ∃ x, x = (i + 1) % (QL c n).length := ⟨_, rfl⟩
      obtain ⟨d, hd⟩ : ∃ d, d = (i + 1) / (QL c n).length := ⟨_, rfl⟩
      have hxl : x < (QL c n).length := by rw [hx]; exact Nat.mod_lt _ hKp
      have hdl : d ≤ 60001 := by rw [hd]; exact Nat.le_trans (Nat.div_le_self _ _) (by omega)
      have ex : ((i : Int) + 1) % ((QL c n).length : Int) = (x : Int) := by rw [hx]; simp
      have ed : ((i : Int) + 1) / ((QL c n).length : Int) = (d : Int) := by rw [hd]; simp
      have ext : ((i : Int) + 1).tmod ((QL c n).length : Int) = (x : Int) := by rw [Int.tmod_eq_emod_of_nonneg (by omega)]; exact ex
      have edt : IntKind.i64.wrap (((i : Int) + 1).tdiv ((QL c n).length : Int)) = (d : Int) := by rw [i64_quo' _ _ ⟨by omega, by omega, by omega⟩]; exact ed
      have edt2 := edt
      rw [Int.tdiv_eq_ediv_of_nonneg (by omega)] at edt2
      have edw : IntKind.i64.wrap (1 + (d : Int)) = 1 + (d : Int) := by rw [wrap_i64']; omega
      rw [← hx] at hq
      have HD : Hid (d = (i + 1) / (QL c n).length) := hd
      clear hx hd ex ed
      have hcq : w4.drew.cell? ⟨g, x, none⟩ = some (.int .u64 q) := owns_cells64 hO4.out.rows x q hq.out
      have hK0 : (((QL c n).length : Int) == 0) = false := by rw [beq_eq_false_iff_ne]; omega
      have hK1 : ¬ QL c n = [] := by intro e; rw [e] at hKp; simp at hKp
      have HQs : Hid (q < 18446744073709551616) := QL_lt c n hn _ _ hq.out
      have HQn : Hid (Pl.ml q ≠ []) := QL_ml c n hn _ _ hq.out
      have T4d : Hid (TabAt w4.drew) := hT.out.grown (by omega) (grown_trans G4 (grown_drew _ _)) hB0
      have h4p : 0 < w4.drew.heap.size := by show 0 < w4.heap.size; omega
      have h4N : w.heap.size < w4.drew.heap.size := N4.out.lt
      have N4d : Hid (Blk w4.drew w.heap.size #[.int .i64 0, .slice none 0 0] 33) := N4.out
      go_region_with (go_at_call 25; refine (members_ne q HQs HQn w4.drew _ h4p T4d (Below.refl _ _)).mono ?_; rintro e w5 ⟨g5, cap5, rfl, hg51, hg52, hc5, hown5, hb5, hb5'⟩; have N5 := N4d.out.below hb5 h4N; have n0 : w5.cell? ⟨w.heap.size, 0, none⟩ = some (.int .i64 0) := N5.cell 0 rfl; have n1 : w5.cell? ⟨w.heap.size, 1, none⟩ = some (.slice none 0 0) := N5.cell 1 rfl; have nf := N5.free)
      all_goals
        go_wp2
        refine bodyPost_ret (v := .agg #[.int .i64 (1 + (d : Int)), .slice (some ⟨g5, 0, none⟩) (Pl.ml q).length cap5]) (by simp [results, Tryd.results16, go_sem, n0, n1]) rfl ?_
        rw [HSK.out]
        exact ⟨g5, cap5, _, _, by rw [← HD.out]; rfl, other_end rfl hlw.out hO4.out N4.out G4 hb5 hown5.out⟩
    · have hge' : (i : Int) < (P : Int) + (LA c n : Int) := by omega
      have hsk : Pl.skip (SN c n) i = i := by unfold Pl.skip SN; rw [← HP.out, if_neg hge]
      rw [hsk] at hq
      have HSK : Hid (Pl.skip (SN c n) i = i) := hsk
      clear hsk
      go_wp2_with fail
      clear hmul
      obtain ⟨x, hx⟩ : ∃ x, x = i % (QL c n).length := ⟨_, rfl⟩
      obtain ⟨d, hd⟩ : ∃ d, d = i / (QL c n).length := ⟨_, rfl⟩
      have hxl : x < (QL c n).length := by rw [hx]; exact Nat.mod_lt _ hKp
      have hdl : d ≤ 60001 := by rw [hd]; exact Nat.le_trans (Nat.div_le_self _ _) (by omega)
      have ex : (i : Int) % ((QL c n).length : Int) = (x : Int) := by rw [hx]; simp
      have ed : (i : Int) / ((QL c n).length : Int) = (d : Int) := by rw [hd]; simp
      have ext : (i : Int).tmod ((QL c n).length : Int) = (x : Int) := by rw [Int.tmod_eq_emod_of_nonneg (by omega)]; exact ex
      have edt : IntKind.i64.wrap ((i : Int).tdiv ((QL c n).length : Int)) = (d : Int) := by rw [i64_quo' _ _ ⟨by omega, by omega, by omega⟩]; exact ed
      have edt2 := edt
      rw [Int.tdiv_eq_ediv_of_nonneg (by omega)] at edt2
      have edw : IntKind.i64.wrap (1 + (d : Int)) = 1 + (d : Int) := by rw [wrap_i64']; omega
      rw [← hx] at hq
      have HD : Hid (d = i / (QL c n).length) := hd
      clear hx hd ex ed
      have hcq : w4.drew.cell? ⟨g, x, none⟩ = some (.int .u64 q) := owns_cells64 hO4.out.rows x q hq.out
      have hK0 : (((QL c n).length : Int) == 0) = false := by rw [beq_eq_false_iff_ne]; omega
      have hK1 : ¬ QL c n = [] := by intro e; rw [e] at hKp; simp at hKp
      have HQs : Hid (q < 18446744073709551616) := QL_lt c n hn _ _ hq.out
      have HQn : Hid (Pl.ml q ≠ []) := QL_ml c n hn _ _ hq.out
      have T4d : Hid (TabAt w4.drew) := hT.out.grown (by omega) (grown_trans G4 (grown_drew _ _)) hB0
      have h4p : 0 < w4.drew.heap.size := by show 0 < w4.heap.size; omega
      have h4N : w.heap.size < w4.drew.heap.size := N4.out.lt
      have N4d : Hid (Blk w4.drew w.heap.size #[.int .i64 0, .slice none 0 0] 33) := N4.out
      go_region_with (go_at_call 25; refine (members_ne q HQs HQn w4.drew _ h4p T4d (Below.refl _ _)).mono ?_; rintro e w5 ⟨g5, cap5, rfl, hg51, hg52, hc5, hown5, hb5, hb5'⟩; have N5 := N4d.out.below hb5 h4N; have n0 : w5.cell? ⟨w.heap.size, 0, none⟩ = some (.int .i64 0) := N5.cell 0 rfl; have n1 : w5.cell? ⟨w.heap.size, 1, none⟩ = some (.slice none 0 0) := N5.cell 1 rfl; have nf := N5.free)
      all_goals
        go_wp2
        refine bodyPost_ret (v := .agg #[.int .i64 (1 + (d : Int)), .slice (some ⟨g5, 0, none⟩) (Pl.ml q).length cap5]) (by simp [results, Tryd.results16, go_sem, n0, n1]) rfl ?_
        rw [HSK.out]
        exact ⟨g5, cap5, _, _, by rw [← HD.out]; rfl, other_end rfl hlw.out hO4.out N4.out G4 hb5 hown5.out⟩
end Go.Proofs.Qxb6609497aDoor
