/-
  THE CONTRACTS of the makers: bytes.NewReader, io.NopCloser, bufio's readers, newEvents, ZZnewEvents.
-/
import Derived.Test.Qxb6609525aW1
import Derived.Stop.Asserts
namespace Go.Proofs.Qxb6609525a
open Go.RowKit

theorem bytesReader_any (w : World) :
    Calls Try.prog 19 #[.slice none 0 0] w fun e w' => e = .returned (.pointer (some ⟨w.heap.size, 0, none⟩)) ∧ Below w.heap.size w w' := by
  go_enter Try.func19, Try.ntmps19
  go_wp2
  go_ret
  exact ⟨rfl, (Below.refl _ _).alloc (Nat.le_refl _) _⟩

theorem hasWriteTo (v : Value) (xT : TypeId) (w : World) : (Instr.typeAssert (.iface 45 v) xT 59 true).run Try.prog w = .ok (.tuple #[.iface 45 v, .bool true]) w := run_typeAssert_hasB Try.underlying59 (by kernel_rfl) v xT w

theorem nopCloser_any (p : Addr) (w : World) :
    Calls Try.prog 18 #[.iface 45 (.pointer (some p))] w fun e w' => e = .returned (.iface 62 (.agg #[.iface 45 (.pointer (some p))])) ∧ w = w' := by
  have hta := hasWriteTo
  go_enter Try.func18, Try.ntmps18
  go_wp2
  go_ret
  exact ⟨rfl, rfl⟩

theorem notReader (v : Value) (w : World) : (Instr.typeAssert (.iface 62 v) 57 47 true).run Try.prog w = .ok (.tuple #[.pointer none, .bool false]) w := by kernel_rfl

theorem grown_set (w : World) (B i : Nat) (u : Value) : w.grownBy (w.setCell ⟨B, i, none⟩ u) (some B) :=
  ⟨rfl, rfl, rfl, by simp, fun k _ hne => Below.heap_setCell _ _ _ _ (fun e => hne (by rw [e]))⟩
theorem grown_trans {a b c : World} {r : Option Nat} (h : a.grownBy b r) (k : b.grownBy c r) : a.grownBy c r :=
  ⟨k.os.trans h.os, k.tape.trans h.tape, k.output.trans h.output, Nat.le_trans h.size k.size, fun i hi hne => (k.block i (Nat.lt_of_lt_of_le hi h.size) hne).trans (h.block i hi hne)⟩

theorem reset_any (B n c : Nat) (a : Option Addr) (v v0 v1 v2 v3 v4 v5 v6 : Value) (w : World) (hB : Hid (w.heap[B]? = some (.cells #[v0, v1, v2, v3, v4, v5, v6] 69 (0, 0)))) :
    Calls Try.prog 23 #[.pointer (some ⟨B, 0, none⟩), .slice a n c, .iface 62 v] w fun e w' => e = .returned (.tuple #[]) ∧ w.grownBy w' (some B) := by
  have hc0 : w.cell? ⟨B, 0, none⟩ = some v0 := cell_of hB.out rfl
  have hc1 : w.cell? ⟨B, 1, none⟩ = some v1 := cell_of hB.out rfl
  have hc2 : w.cell? ⟨B, 2, none⟩ = some v2 := cell_of hB.out rfl
  have hc3 : w.cell? ⟨B, 3, none⟩ = some v3 := cell_of hB.out rfl
  have hc4 : w.cell? ⟨B, 4, none⟩ = some v4 := cell_of hB.out rfl
  have hc5 : w.cell? ⟨B, 5, none⟩ = some v5 := cell_of hB.out rfl
  have hc6 : w.cell? ⟨B, 6, none⟩ = some v6 := cell_of hB.out rfl
  have hf : ∀ o, w.frozen? ⟨B, o, none⟩ = false := by intro o; have := hB.out; simp [World.frozen?, this]
  go_enter Try.func23, Try.ntmps23
  go_wp2
  go_end0
  exact ⟨rfl, grown_trans (grown_trans (grown_trans (grown_trans (grown_trans (grown_trans (grown_set _ _ _ _) (grown_set _ _ _ _)) (grown_set _ _ _ _)) (grown_set _ _ _ _)) (grown_set _ _ _ _)) (grown_set _ _ _ _)) (grown_set _ _ _ _)⟩

theorem readerSize_any (v : Value) (w : World) :
    Calls Try.prog 22 #[.iface 62 v, .int .i64 4096] w fun e w' => ∃ B, e = .returned (.pointer (some ⟨B, 0, none⟩)) ∧ Below w.heap.size w w' := by
  have hta := notReader
  obtain ⟨i0, hi, hz0, hz1, hz2⟩ := info_parts info5
  go_enter Try.func22, Try.ntmps22
  go_wp2_with (at_make; refine wpList_make_full _ rfl (.tmp 27) (.tmp 27) 22 rfl w.heap.size 5 i0 (.int .u8 0) 1 Try.underlying22 hi hz0 hz1 .i64 .i64 4096 4096 4096 rfl rfl rfl rfl (by rw [hz2]; omega) (by unfold maxLen; omega) (by rw [size_alloc]; omega) ?_; intro w1 hown1 hgrow1)
  have HB : Hid (w1.heap[w.heap.size]? = some (.cells #[.slice none 0 0, .nilIface, .int .i64 0, .int .i64 0, .nilIface, .int .i64 0, .int .i64 0] 69 (0, 0))) :=
    (hgrow1.block w.heap.size (by rw [size_alloc]; omega) (by simp)).trans (block_new _ _)
  have B1 : Hid (Below w.heap.size w w1) := ((Below.refl _ _).alloc (Nat.le_refl _) _).grown hgrow1 (by rw [size_alloc]; omega) (by simp)
  clear hown1 hgrow1
  refine (reset_any w.heap.size 4096 4096 _ v _ _ _ _ _ _ _ w1 HB).mono ?_
  rintro e w2 ⟨rfl, hg⟩
  go_wp2
  go_ret
  exact ⟨_, rfl, B1.out.grown hg B1.out.size (by rintro k hk; cases hk; exact Nat.le_refl _)⟩

theorem newReader_any (v : Value) (w : World) :
    Calls Try.prog 21 #[.iface 62 v] w fun e w' => ∃ B, e = .returned (.pointer (some ⟨B, 0, none⟩)) ∧ Below w.heap.size w w' := by
  go_enter Try.func21, Try.ntmps21
  go_wp2_with fail
  refine (readerSize_any v w).mono ?_
  rintro e w1 ⟨B, rfl, hb⟩
  go_wp2
  go_ret
  exact ⟨_, rfl, hb⟩

/-- append([]byte(nil), xs...): a copy of the call's own; nil where xs is empty. -/
theorem run_copy (w : World) (ty : TypeId) (a : Option Addr) (n c : Nat) (f : Nat → Int) (hn : n ≤ 1048576) (h : SL w a n f) (hc : a = none → c = 0) :
    ∃ a' c' w', (Builtin.append_ #[22, 22] ty #[.slice none 0 0, .slice a n c]).run Try.prog w = .ok (.slice a' n c') w' ∧ OW w' w.heap.size a' n f ∧ Below w.heap.size w w' := by
  obtain ⟨i0, hi, hz0, hz1, hz2⟩ := info_parts info5
  cases a with
  | none =>
    obtain rfl := h.1 rfl
    obtain rfl := hc rfl
    exact ⟨none, 0, w, run_append_owned_none (P := Try.prog) (w := w) w.heap.size 22 ty 5 i0 1 Try.underlying22 hi (.slice none 0 0) 0 [] (World.ownsRow_nil w _ 5 1), .inl ⟨rfl, rfl⟩, Below.refl _ _⟩
  | some x =>
    have hnews : ∀ j u, ((List.range n).map fun j => Value.int .u8 (f j))[j]? = some u → w.cell? (x.add j) = some u := by
      intro j u hu
      by_cases hj : j < n
      · simp [hj] at hu
        rw [← hu]
        exact h.2 x rfl j hj
      · simp [hj] at hu
    obtain ⟨v', w', hrun, r1, r2, r3⟩ := run_append_own (P := Try.prog) w w.heap.size 22 ty 5 i0 (.int .u8 0) 1 1 Try.underlying22 hi hz0 hz1 hz2 rfl (by decide) (.slice none 0 0) 0 [] (World.ownsRow_nil w _ 5 1) x n c
      ((List.range n).map fun j => Value.int .u8 (f j)) (by simp) hnews (by simp [Value.oneCell']) (by unfold maxLen; omega) (by omega) (Nat.le_refl _)
    rw [Nat.zero_add, List.nil_append] at r1
    have hb : Below w.heap.size w w' := (Below.refl _ _).grown r2 (Nat.le_refl _) (by simp [Value.ownBlock])
    have r1' := r1
    rcases r1.2 with ⟨rfl, rfl⟩ | ⟨g, cap, cur, rfl, hg, _⟩
    · exact ⟨none, 0, w', hrun, .inl ⟨rfl, rfl⟩, hb⟩
    · refine ⟨some ⟨g, 0, none⟩, cap, w', hrun, .inr ⟨g, hg, rfl, brow_of_owns r1' (fun j hj => by simp [hj])⟩, hb⟩

/-- The same, as one step of a region that draws. -/
theorem step_copy {ops : Array Oper} {o : Oper} {a : Act} {w : World} {K : Act → World → Prop} {Q : Exit → Act → World → Prop} {E : Prop}
    (hg : o.guard = none) (s x : Operand) (hop : o.op = Op.call { callee := Callee.builtin Builtin.append, args := #[s, x], argTypes := #[22, 22] })
    (ad : Option Addr) (n c : Nat) (f : Nat → Int) (hs : a.eval s = .slice none 0 0) (hx : a.eval x = .slice ad n c) (hn : n ≤ 1048576) (h : SL w ad n f) (hc : ad = none → c = 0)
    (hK : ∀ a' c' w', Hid (OW w' w.heap.size a' n f) → Below w.heap.size w w' → K (a.put o.dst (.slice a' n c')) w') :
    if Region.wanted o (yielded ops a.tmps) = true then Oper.wp Try.prog o a w K Q else E := by
  have hw : Region.wanted o (yielded ops a.tmps) = true := by simp [Region.wanted, hg]
  rw [if_pos hw]
  obtain ⟨a', c', w', hrun, r1, r2⟩ := run_copy w o.type ad n c f hn h hc
  unfold Oper.wp
  simp [execOp, hop, resolve, invoke, builtin, hs, hx, hrun, Result.andThen]
  exact hK a' c' w' r1 r2

end Go.Proofs.Qxb6609525a
