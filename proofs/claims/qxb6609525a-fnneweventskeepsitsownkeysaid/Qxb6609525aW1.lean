/-
  THE CONTRACTS of the functions on the two roads: rows of bytes, cloneBytes, sameBytes, the getters.
-/
import Derived.Test.Qxb6609525aRows
import Derived.WalkKit
import Derived.ProofKit
import Derived.OpenShut
import Derived.ShutString
import Derived.ChangeOld
import Derived.Below
import Derived.BigQuiet
import Derived.Deep.QuietTactic
import Derived.Deep.RegionHeldLaw
import Derived.Laws.OwnMore
import Derived.Maps.OwnSet
namespace Go.Proofs.Qxb6609525a
open Go.RowKit

/-- Block g is a row of bytes that reads f in its first n cells; none is frozen. -/
def BRow (w : World) (g n : Nat) (f : Nat → Int) : Prop := ∃ cur : Array Value, w.heap[g]? = some (.cells cur 5 (0, 0)) ∧ ∀ j, j < n → cur[j]? = some (.int .u8 (f j))

/-- A slice's elements read f. -/
def SL (w : World) (a : Option Addr) (n : Nat) (f : Nat → Int) : Prop := (a = none → n = 0) ∧ ∀ x, a = some x → ∀ i, i < n → w.cell? (x.add i) = some (.int .u8 (f i))

/-- A slice of the call's own: nil, or a row in a block from C on. -/
def OW (w : World) (C : Nat) (a : Option Addr) (n : Nat) (f : Nat → Int) : Prop := (a = none ∧ n = 0) ∨ ∃ g, C ≤ g ∧ a = some ⟨g, 0, none⟩ ∧ BRow w g n f

theorem BRow.lt {w : World} {g n : Nat} {f : Nat → Int} (h : BRow w g n f) : g < w.heap.size := by
  obtain ⟨cur, h1, _⟩ := h
  exact lt_of_block h1
theorem BRow.cell {w : World} {g n : Nat} {f : Nat → Int} (h : BRow w g n f) (i : Nat) (hi : i < n) : w.cell? ⟨g, i, none⟩ = some (.int .u8 (f i)) := by
  obtain ⟨cur, h1, h2⟩ := h
  simp [World.cell?, h1, h2 i hi]
theorem BRow.free {w : World} {g n : Nat} {f : Nat → Int} (h : BRow w g n f) (i : Nat) : w.frozen? ⟨g, i, none⟩ = false := by
  obtain ⟨cur, h1, h2⟩ := h
  simp [World.frozen?, h1]
theorem BRow.of_block {w w' : World} {g n : Nat} {f : Nat → Int} (h : BRow w g n f) (e : w'.heap[g]? = w.heap[g]?) : BRow w' g n f := by
  obtain ⟨cur, h1, h2⟩ := h
  exact ⟨cur, e.trans h1, h2⟩
theorem BRow.below {w w' : World} {g n C : Nat} {f : Nat → Int} (h : BRow w g n f) (hb : Below C w w') (hg : g < C) : BRow w' g n f := h.of_block (hb.block g hg)
theorem BRow.far {w : World} {g n B i : Nat} {f : Nat → Int} (h : BRow w g n f) (hne : g ≠ B) (u : Value) : BRow (w.setCell ⟨B, i, none⟩ u) g n f := h.of_block (Below.heap_setCell _ _ _ _ hne)
theorem BRow.set {w : World} {g n i : Nat} {f : Nat → Int} (h : BRow w g n f) (hi : i < n) (v : Int) : BRow (w.setCell ⟨g, i, none⟩ (.int .u8 v)) g n (fun j => if j = i then v else f j) := by
  have hlt := h.lt
  obtain ⟨cur, h1, h2⟩ := h
  have h' : w.heap[g] = .cells cur 5 (0, 0) := by simpa [Array.getElem?_eq_getElem hlt] using h1
  refine ⟨cur.setIfInBounds i (.int .u8 v), ?_, ?_⟩
  · show (w.heap.modify g _)[g]? = _
    rw [Array.getElem?_eq_getElem (by simpa using hlt), Array.getElem_modify_self, h']
    rfl
  · intro j hj
    have hs : i < cur.size := by
      have := h2 i hi
      exact (Array.getElem?_eq_some_iff.1 this).1
    by_cases e : j = i
    · subst e
      simp [hs]
    · simp [e, h2 j hj, Ne.symm e]
theorem BRow.congr {w : World} {g n : Nat} {f f' : Nat → Int} (h : BRow w g n f) (e : ∀ j, j < n → f j = f' j) : BRow w g n f' := by
  obtain ⟨cur, h1, h2⟩ := h
  exact ⟨cur, h1, fun j hj => by rw [← e j hj]; exact h2 j hj⟩

theorem SL.below {w w' : World} {C n : Nat} {a : Option Addr} {f : Nat → Int} (h : SL w a n f) (hb : Below C w w') (hC : w.heap.size ≤ C) : SL w' a n f := by
  refine ⟨h.1, fun x hx i hi => ?_⟩
  have h1 := h.2 x hx i hi
  have hlt : (x.add i).block < w.heap.size := by
    cases hh : w.heap[(x.add i).block]? with
    | none => simp [World.cell?, hh] at h1
    | some o => exact lt_of_block hh
  exact (hb.cell (Nat.lt_of_lt_of_le hlt hC)).trans h1
theorem OW.sl {w : World} {C n : Nat} {a : Option Addr} {f : Nat → Int} (h : OW w C a n f) : SL w a n f := by
  rcases h with ⟨rfl, rfl⟩ | ⟨g, _, rfl, hb⟩
  · exact ⟨fun _ => rfl, fun x hx => by cases hx⟩
  · refine ⟨fun h => (by cases h), fun x hx i hi => ?_⟩
    cases hx
    rw [Addr.add_lit, Nat.zero_add]
    exact hb.cell i hi
theorem OW.below {w w' : World} {C D n : Nat} {a : Option Addr} {f : Nat → Int} (h : OW w C a n f) (hb : Below D w w') (hD : w.heap.size ≤ D) : OW w' C a n f := by
  rcases h with h | ⟨g, hg, rfl, h⟩
  · exact .inl h
  · exact .inr ⟨g, hg, rfl, h.below hb (Nat.lt_of_lt_of_le h.lt hD)⟩

theorem eq22_nil (w : World) : (binOp .eql 22 (.slice none 0 0) (.slice none 0 0)).run Try.prog w = .ok (.bool true) w := by kernel_rfl
theorem eq22_some (a : Addr) (n c : Nat) (w : World) : (binOp .eql 22 (.slice (some a) n c) (.slice none 0 0)).run Try.prog w = .ok (.bool false) w := by kernel_rfl

theorem info5 : (Try.prog.info? 5).map (fun i => (i.zero, i.size, i.bytes)) = some (some (.int .u8 0), 1, 1) := by kernel_rfl

theorem zz5_ok (u : ByteArray) (a : Option Addr) (n cap : Nat) (z : Int) (h : u.size + n ≤ 1048576) (w : World) :
    Calls Try.prog 5 #[.string u, .slice a n cap, .int .i64 z] w fun e w' => e = .returned (.bool true) ∧ w = w' := by
  go_enter Try.func5, Try.ntmps5
  go_wp2
  go_ret
  exact ⟨rfl, rfl⟩

theorem zz5_no (u : ByteArray) (a : Option Addr) (n cap : Nat) (z : Int) (hu : u.size ≤ maxLen) (hn : n ≤ maxLen) (h : ¬ u.size + n ≤ 1048576) (w : World) :
    Calls Try.prog 5 #[.string u, .slice a n cap, .int .i64 z] w fun e w' => e = .returned (.bool false) ∧ w = w' := by
  unfold maxLen at hu hn
  by_cases h1 : u.size ≤ 1048576
  · by_cases h2 : n ≤ 1048576
    · go_enter Try.func5, Try.ntmps5
      go_wp2
      go_ret
      exact ⟨rfl, rfl⟩
    · go_enter Try.func5, Try.ntmps5
      go_wp2
      go_ret
      exact ⟨rfl, rfl⟩
  · go_enter Try.func5, Try.ntmps5
    go_wp2
    go_ret
    exact ⟨rfl, rfl⟩

theorem clone_nil (w : World) : Calls Try.prog 6 #[.slice none 0 0] w fun e w' => e = .returned (.slice none 0 0) ∧ w = w' := by
  have hnil := eq22_nil
  go_enter Try.func6, Try.ntmps6
  go_wp2
  go_ret
  exact ⟨rfl, rfl⟩

theorem brow_of_owns {w : World} {base g n cap : Nat} {xs : List Value} {f : Nat → Int} (h : w.ownsRow base 5 1 (.slice (some ⟨g, 0, none⟩) n cap) n xs) (hx : ∀ j, j < n → xs[j]? = some (.int .u8 (f j))) : BRow w g n f := by
  rcases h.2 with ⟨h0, _⟩ | ⟨g', cap', cur, hv, _, hh, _, _, _, htake⟩
  · cases h0
  · cases hv
    refine ⟨cur, hh, fun j hj => ?_⟩
    have := hx j hj
    rw [← htake, Nat.mul_one, List.getElem?_take_of_lt hj] at this
    simpa using this

theorem made_zero (n j : Nat) (hj : j < n) : (madeCells (Value.int .u8 0).cells (n * 1)).toList[j]? = some (.int .u8 0) := by
  rw [Nat.mul_one]
  simp [madeCells, hj, Value.cells, Nat.mod_one]

theorem clone_some (x : Addr) (n cap : Nat) (f : Nat → Int) (hn : n ≤ 1048576) (w : World) (H : Hid (SL w (some x) n f)) :
    Calls Try.prog 6 #[.slice (some x) n cap] w fun e w' => e = .returned (.slice (some ⟨w.heap.size, 0, none⟩) n n) ∧ Hid (BRow w' w.heap.size n f) ∧ Below w.heap.size w w' := by
  have hnil := eq22_some
  obtain ⟨i0, hi, hz0, hz1, hz2⟩ := info_parts info5
  go_enter Try.func6, Try.ntmps6
  go_wp2_with (at_make; refine wpList_make_full _ rfl (.tmp 8) (.tmp 8) 22 rfl w.heap.size 5 i0 (.int .u8 0) 1 Try.underlying22 hi hz0 hz1 .i64 .i64 n n n rfl rfl rfl rfl (by rw [hz2]; omega) (by unfold maxLen; omega) (Nat.le_refl _) ?_; intro w1 hown1 hgrow1)
  have HR : Hid (BRow w1 w.heap.size n (fun _ => 0)) := brow_of_owns hown1 (made_zero n)
  have HB1 : Hid (Below w.heap.size w w1) := (Below.refl _ _).grown hgrow1 (Nat.le_refl _) (by simp)
  clear hown1 hgrow1
  go_loopw [4] (fun i w' => ∃ k : Nat, k ≤ n ∧ i = .int .i64 k ∧ Hid (BRow w' w.heap.size n (fun j => if j < k then f j else 0)) ∧ Hid (Below w.heap.size w w')) (fun i _ => n - (intOf i).toNat)
  case atStart => exact ⟨0, by omega, rfl, HR.out.congr (fun j _ => by simp), HB1⟩
  case round =>
    obtain ⟨k, hk, rfl, HK, HB⟩ := hrel
    by_cases hlt : k < n
    · have c1 := (H.out.below HB.out (Nat.le_refl _)).2 x rfl k hlt
      have c2 := HK.out.cell k hlt
      have c3 := HK.out.free k
      go_wp2
      go_roundw
      case rel =>
        refine ⟨k + 1, by omega, by go_num, (HK.out.set hlt (f k)).congr (fun j hj => ?_), HB.out.setCell (Nat.le_refl _) _⟩
        by_cases e : j = k
        · subst e; simp
        · have : (j < k + 1) = (j < k) := by apply propext; omega
          simp [e, this]
      case measure => simp [intOf]; omega
    · go_wp2
      go_ret
      exact ⟨rfl, HK.out.congr (fun j hj => by rw [if_pos (by omega)]), HB.out⟩

theorem same_any (a b : Option Addr) (n ca cb : Nat) (f : Nat → Int) (hn : n ≤ 1048576) (w : World) (HA : Hid (SL w a n f)) (HB : Hid (SL w b n f)) :
    Calls Try.prog 13 #[.slice a n ca, .slice b n cb] w fun e w' => e = .returned (.bool true) ∧ Below w.heap.size w w' := by
  go_enter Try.func13, Try.ntmps13
  go_wp2
  go_loopw [5] (fun i w' => ∃ k : Nat, k ≤ n ∧ i = .int .i64 k ∧ Below w.heap.size w w') (fun i _ => n - (intOf i).toNat)
  case atStart => exact ⟨0, by omega, rfl, Below.refl _ _⟩
  case round =>
    obtain ⟨k, hk, rfl, hb⟩ := hrel
    by_cases hlt : k < n
    · obtain ⟨x, rfl⟩ : ∃ x, a = some x := by
        cases a with
        | none => have := HA.out.1 rfl; omega
        | some x => exact ⟨x, rfl⟩
      obtain ⟨y, rfl⟩ : ∃ y, b = some y := by
        cases b with
        | none => have := HB.out.1 rfl; omega
        | some y => exact ⟨y, rfl⟩
      have c1 := (HA.out.below hb (Nat.le_refl _)).2 x rfl k hlt
      have c2 := (HB.out.below hb (Nat.le_refl _)).2 y rfl k hlt
      go_wp2
      go_region
      all_goals (try go_wp2)
      all_goals go_roundw
      case rel => exact ⟨k + 1, by omega, by go_num, hb.drew⟩
      case measure => simp [intOf]; omega
    · go_wp2
      go_ret
      exact ⟨rfl, hb⟩

theorem size_alloc (w : World) (o : Obj) : (w.alloc o).heap.size = w.heap.size + 1 := by show (w.heap.push _).size = _; simp
theorem block_new (w : World) (o : Obj) : (w.alloc o).heap[w.heap.size]? = some o := (MapKept.heap_alloc w o).1
theorem cell_of {w : World} {B i : Nat} {cur : Array Value} {t : TypeId} {z : Nat × Nat} {v : Value} (h : w.heap[B]? = some (.cells cur t z)) (hv : cur[i]? = some v) : w.cell? ⟨B, i, none⟩ = some v := by
  simp [World.cell?, h, hv]

theorem newKey_any (a : Option Addr) (n c : Nat) (w : World) :
    Calls Try.prog 8 #[.slice a n c] w fun e w' => e = .returned (.agg #[.pointer (some ⟨w.heap.size, 0, none⟩)]) ∧ Hid (w'.heap[w.heap.size]? = some (.cells #[.slice a n c] 22 (0, 0))) ∧ Below w.heap.size w w' := by
  go_enter Try.func8, Try.ntmps8
  go_wp2
  have hc : ((w.alloc (Obj.cells #[.slice a n c] 22)).alloc (Obj.cells #[Value.pointer (some { block := w.heap.size, off := 0 })] 29)).cell? ⟨w.heap.size + 1, 0, none⟩ = some (Value.pointer (some { block := w.heap.size, off := 0 })) := by
    have := block_new (w.alloc (Obj.cells #[.slice a n c] 22)) (Obj.cells #[Value.pointer (some { block := w.heap.size, off := 0 })] 29)
    rw [size_alloc] at this
    exact cell_of this rfl
  refine bodyPost_ret (v := .agg #[.pointer (some ⟨w.heap.size, 0, none⟩)]) (by simp [results, Try.results8, go_sem, hc]) rfl ⟨rfl, ?_, ?_⟩
  · exact (Below.heap_alloc _ _ _ (by rw [size_alloc]; omega)).trans (block_new _ _)
  · exact ((Below.refl _ _).alloc (Nat.le_refl _) _).alloc (by rw [size_alloc]; omega) _

theorem key_any (kb : Nat) (a : Option Addr) (n c : Nat) (w : World) (H : Hid (w.heap[kb]? = some (.cells #[.slice a n c] 22 (0, 0)))) :
    Calls Try.prog 20 #[.agg #[.pointer (some ⟨kb, 0, none⟩)]] w fun e w' => e = .returned (.slice a n c) ∧ Below w.heap.size w w' := by
  have hc : w.cell? ⟨kb, 0, none⟩ = some (.slice a n c) := cell_of H.out rfl
  have hlt : kb < w.heap.size := lt_of_block H.out
  go_enter Try.func20, Try.ntmps20
  go_wp2
  go_ret
  exact ⟨rfl, (Below.refl _ _).alloc (Nat.le_refl _) _⟩

/-- New events at block E: their url, limit, the key's box, the texts' map (empty). -/
def Ev (w : World) (E kb mb : Nat) (url : ByteArray) (lim : Int) (sl : Value) : Prop :=
  (∃ cur : Array Value, w.heap[E]? = some (.cells cur 53 (0, 0)) ∧ cur[3]? = some (.string url) ∧ cur[4]? = some (.int .i64 lim) ∧ cur[8]? = some (.pointer (some ⟨kb, 0, none⟩)) ∧ cur[9]? = some (.map (some mb))) ∧
  w.heap[kb]? = some (.cells #[sl] 22 (0, 0)) ∧ w.heap[mb]? = some (.map #[] 0)

theorem Ev.of_blocks {w w' : World} {E kb mb : Nat} {url : ByteArray} {lim : Int} {sl : Value} (h : Ev w E kb mb url lim sl) (h1 : w'.heap[E]? = w.heap[E]?) (h2 : w'.heap[kb]? = w.heap[kb]?) (h3 : w'.heap[mb]? = w.heap[mb]?) : Ev w' E kb mb url lim sl := by
  obtain ⟨⟨cur, hE, r⟩, hk, hm⟩ := h
  exact ⟨⟨cur, h1.trans hE, r⟩, h2.trans hk, h3.trans hm⟩
theorem Ev.below {w w' : World} {E kb mb C : Nat} {url : ByteArray} {lim : Int} {sl : Value} (h : Ev w E kb mb url lim sl) (hb : Below C w w') (hC : w.heap.size ≤ C) : Ev w' E kb mb url lim sl := by
  have h0 := h
  obtain ⟨⟨cur, hE, r⟩, hk, hm⟩ := h
  exact h0.of_blocks (hb.block _ (Nat.lt_of_lt_of_le (lt_of_block hE) hC)) (hb.block _ (Nat.lt_of_lt_of_le (lt_of_block hk) hC)) (hb.block _ (Nat.lt_of_lt_of_le (lt_of_block hm) hC))
theorem Ev.far {w : World} {E kb mb g n i : Nat} {f : Nat → Int} {url : ByteArray} {lim : Int} {sl : Value} (h : Ev w E kb mb url lim sl) (hr : BRow w g n f) (u : Value) : Ev (w.setCell ⟨g, i, none⟩ u) E kb mb url lim sl := by
  have h0 := h
  obtain ⟨⟨cur, hE, r⟩, hk, hm⟩ := h
  obtain ⟨cur', hg, _⟩ := hr
  have n1 : E ≠ g := by rintro rfl; rw [hg] at hE; cases hE
  have n2 : kb ≠ g := by rintro rfl; rw [hg] at hk; cases hk
  have n3 : mb ≠ g := by rintro rfl; rw [hg] at hm; cases hm
  exact h0.of_blocks (Below.heap_setCell _ _ _ _ n1) (Below.heap_setCell _ _ _ _ n2) (Below.heap_setCell _ _ _ _ n3)

theorem url_any (E kb mb : Nat) (url : ByteArray) (lim : Int) (sl : Value) (w : World) (H : Hid (Ev w E kb mb url lim sl)) :
    Calls Try.prog 9 #[.pointer (some ⟨E, 0, none⟩)] w fun e w' => e = .returned (.string url) ∧ w = w' := by
  have hc : w.cell? ⟨E, 3, none⟩ = some (.string url) := by obtain ⟨⟨cur, h1, h2, _⟩, _⟩ := H.out; exact cell_of h1 h2
  go_enter Try.func9, Try.ntmps9
  go_wp2
  go_ret
  exact ⟨rfl, rfl⟩
theorem limit_any (E kb mb : Nat) (url : ByteArray) (lim : Int) (sl : Value) (w : World) (H : Hid (Ev w E kb mb url lim sl)) :
    Calls Try.prog 10 #[.pointer (some ⟨E, 0, none⟩)] w fun e w' => e = .returned (.int .i64 lim) ∧ w = w' := by
  have hc : w.cell? ⟨E, 4, none⟩ = some (.int .i64 lim) := by obtain ⟨⟨cur, h1, h2, h3, _⟩, _⟩ := H.out; exact cell_of h1 h3
  go_enter Try.func10, Try.ntmps10
  go_wp2
  go_ret
  exact ⟨rfl, rfl⟩
theorem eq50_some (b : Nat) (w : World) : (binOp .eql 50 (.map (some b)) (.map none)).run Try.prog w = .ok (.bool false) w := by kernel_rfl
theorem textsNil_any (E kb mb : Nat) (url : ByteArray) (lim : Int) (sl : Value) (w : World) (H : Hid (Ev w E kb mb url lim sl)) :
    Calls Try.prog 11 #[.pointer (some ⟨E, 0, none⟩)] w fun e w' => e = .returned (.bool false) ∧ w = w' := by
  have hc : w.cell? ⟨E, 9, none⟩ = some (.map (some mb)) := by obtain ⟨⟨cur, h1, h2, h3, h4, h5⟩, _⟩ := H.out; exact cell_of h1 h5
  have hq := eq50_some
  go_enter Try.func11, Try.ntmps11
  go_wp2
  go_ret
  exact ⟨rfl, rfl⟩
theorem wpList_len_map {P : Program} {w : World} {ops : Array Oper} {rest : List Oper} {o : Oper} {a : Act} {Q : Exit → Act → World → Prop} (hg : o.guard = none) (m : Operand) (t : TypeId) (hop : o.op = Op.call { callee := Callee.builtin Builtin.len, args := #[m], argTypes := #[t] })
    (k e : TypeId) (ht : P.underlying t = some (.map k e)) (b : Nat) (es : Array MapEntry) (clock : Nat) (hm : a.eval m = .map (some b)) (hb : w.heap[b]? = some (.map es clock))
    (hK : wpList P ops Q rest (a.put o.dst (.int .i64 es.size)) w) : wpList P ops Q (o :: rest) a w := by
  refine wpList_plain hg fun K' hK' => ?_
  have hrun : (Builtin.len_ #[t] o.type #[.map (some b)]).run P w = .ok (.int .i64 es.size) w := by
    simp [Builtin.len_, run_underlying ht, MapKept.run_getObj_map hb, goInt, Result.andThen]
  unfold Oper.wp
  simp [execOp, hop, resolve, invoke, builtin, hm, hrun, Result.andThen]
  exact hK' _ _ hK

theorem textCount_any (E kb mb : Nat) (url : ByteArray) (lim : Int) (sl : Value) (w : World) (H : Hid (Ev w E kb mb url lim sl)) :
    Calls Try.prog 12 #[.pointer (some ⟨E, 0, none⟩)] w fun e w' => e = .returned (.int .i64 0) ∧ w = w' := by
  have hc : w.cell? ⟨E, 9, none⟩ = some (.map (some mb)) := by obtain ⟨⟨cur, h1, h2, h3, h4, h5⟩, _⟩ := H.out; exact cell_of h1 h5
  have HM : Hid (w.heap[mb]? = some (.map #[] 0)) := H.out.2.2
  go_enter Try.func12, Try.ntmps12
  go_wp2_with (at_len; refine wpList_len_map rfl (.tmp 6) 50 rfl _ _ Try.underlying50 mb #[] 0 rfl HM.out ?_)
  go_ret
  exact ⟨rfl, rfl⟩
theorem evKey_any (E kb mb : Nat) (url : ByteArray) (lim : Int) (a : Option Addr) (n c : Nat) (w : World) (H : Hid (Ev w E kb mb url lim (.slice a n c))) :
    Calls Try.prog 14 #[.pointer (some ⟨E, 0, none⟩)] w fun e w' => e = .returned (.slice a n c) ∧ Below w.heap.size w w' := by
  have hc : w.cell? ⟨E, 8, none⟩ = some (.pointer (some ⟨kb, 0, none⟩)) := by obtain ⟨⟨cur, h1, h2, h3, h4, h5⟩, _⟩ := H.out; exact cell_of h1 h4
  have HK : Hid (w.heap[kb]? = some (.cells #[.slice a n c] 22 (0, 0))) := H.out.2.1
  go_enter Try.func14, Try.ntmps14
  go_wp2_with fail
  refine (key_any kb a n c w HK).mono ?_
  rintro e w1 ⟨rfl, hb⟩
  go_wp2
  go_ret
  exact ⟨rfl, hb⟩

end Go.Proofs.Qxb6609525a
