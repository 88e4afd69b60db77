/-
  THE SHELL OF A PROOF OF 'Rows.FnEnterAdmitsUpToMaxDepthSaid' ('example.com/muster/muster/zzlaws_internal_yamldoc_b1.FnEnterAdmitsUpToMaxDepth'), WRITTEN BY PROGRAM (proof-skeleton.mjs) off the guide's own print for that function. Not trusted: Lean checks it.
  ALL ELSE IS THE GUIDE's TEMPLATE (howto/template/XProofs.lean) at this function's number and types: leave it.
-/
import Derived.Test.Qxb6612781aRows
import Derived.WalkKit
import Derived.ProofKit
import Derived.OpenShut
import Derived.ShutString
namespace Go.Proofs.Qxb6612781a.fnEnterAdmitsUpToMaxDepth
open Go.ChangeShapes Go.WideShapes Go.ChangeAt Go.RowKit
open Go.ChangeMaps (open_string shut_string)
set_option linter.unusedVariables false      -- a walk need not use every 'w<i>' (that an integer argument fits its kind)

theorem own : ownKnob Try.prog.godebug = none := by kernel_rfl

/-- The parser's block: its depth is x. -/
def At (w0 w : World) (x : Int) : Prop := w.cell? ⟨w0.heap.size, 1, none⟩ = some (.int .i64 x) ∧ (∀ o, w.frozen? ⟨w0.heap.size, o, none⟩ = false) ∧ Grown w0 w

theorem At.set {w0 w : World} {x : Int} (h : At w0 w x) (y : Int) : At w0 (w.setCell ⟨w0.heap.size, 1, none⟩ (.int .i64 y)) y := by
  refine ⟨?_, fun o => (World.frozen?_setCell _ _ _ _).trans (h.2.1 o), h.2.2.setCell (Nat.le_refl _) _⟩
  exact World.cell?_setCell_same _ _ _ h.1

theorem enter_in (w0 w : World) (x : Int) (h1 : -2000000000 ≤ x) (h2 : x ≤ 2000000000) (H : Hid (At w0 w x)) :
    Calls Try.prog 9 #[.pointer (some ⟨w0.heap.size, 0, none⟩)] w fun e w' => e = .returned (.bool (decide (x + 1 ≤ 10000))) ∧ Hid (At w0 w' (x + 1)) := by
  have hc := H.out.1
  have hf := H.out.2.1
  go_enter Try.func9, Try.ntmps9
  go_wp2
  go_ret
  exact ⟨rfl, H.out.set (x + 1)⟩

theorem leave14 (w0 w : World) (x : Int) (h1 : -2000000000 ≤ x) (h2 : x ≤ 2000000000) (H : Hid (At w0 w x)) :
    Calls Try.prog 14 #[.pointer (some ⟨w0.heap.size, 0, none⟩)] w fun e w' => e = .returned (.tuple #[]) ∧ Hid (At w0 w' (x - 1)) := by
  have hc := H.out.1
  have hf := H.out.2.1
  go_enter Try.func14, Try.ntmps14
  go_wp2
  go_end0
  exact ⟨rfl, H.out.set (x - 1)⟩

theorem leave_in (w0 w : World) (x : Int) (h1 : -2000000000 ≤ x) (h2 : x ≤ 2000000000) (H : Hid (At w0 w x)) :
    Calls Try.prog 11 #[.pointer (some ⟨w0.heap.size, 0, none⟩)] w fun e w' => e = .returned (.tuple #[]) ∧ Hid (At w0 w' (x - 1)) := by
  go_enter Try.func11, Try.ntmps11
  go_wp2_with fail
  refine (leave14 w0 w x h1 h2 H).mono ?_
  rintro e w1 ⟨rfl, H1⟩
  go_wp2
  go_end0
  exact ⟨rfl, H1⟩

theorem depth_in (w0 w : World) (x : Int) (H : Hid (At w0 w x)) :
    Calls Try.prog 10 #[.pointer (some ⟨w0.heap.size, 0, none⟩)] w fun e w' => e = .returned (.int .i64 x) ∧ w = w' := by
  have hc := H.out.1
  go_enter Try.func10, Try.ntmps10
  go_wp2
  go_ret
  exact ⟨rfl, rfl⟩

theorem new_in (w : World) (x : Int) :
    Calls Try.prog 8 #[.int .i64 x] w fun e w' => e = .returned (.pointer (some ⟨w.heap.size, 0, none⟩)) ∧ Hid (At w w' x) := by
  go_enter Try.func8, Try.ntmps8
  go_wp2
  go_ret
  refine ⟨rfl, ?_, ?_, ?_⟩
  · simp only [World.cell?, (MapKept.heap_alloc w _).1]; rfl
  · intro o
    simp only [World.frozen?, (MapKept.heap_alloc w _).1]; simp
  · exact (Grown.refl _).alloc _ _

/-! ### STEP 1: THE WALK: the Go text returns true. 'Grown w w'': the world has at most new blocks (Derived/RowKit3.lean). Part the cases AHEAD of 'go_enter' where a test parts the walk; take each callee by a contract of your own. -/
theorem mid (d k : Int) (hd1 : -1073741824 ≤ d) (hd2 : d ≤ 1073741824) (hk1 : 0 ≤ k) (hk2 : k ≤ 65536) (w : World) :
    Calls Try.prog 5 #[.int .i64 d, .int .i64 k] w fun e w' => e = .returned (.bool true) ∧ Grown w w' := by
  go_enter Try.func5, Try.ntmps5
  go_wp2_with fail
  refine (new_in w d).mono ?_
  rintro e w1 ⟨rfl, H1⟩
  go_wp2
  go_loopw [6, 7, 8] (fun a r i w' => ∃ (j : Int) (b : Bool), 0 ≤ j ∧ j ≤ k ∧ i = .int .i64 j ∧ a = .int .i64 (max 0 (min j (10000 - d))) ∧ r = .bool b ∧ Hid (b = true → 10000 - d < j) ∧ Hid (At w w' (d + j))) (fun _ _ i _ => (k - intOf i).toNat)
  case atStart => exact ⟨0, false, by omega, hk1, rfl, by rw [show max 0 (min 0 (10000 - d)) = 0 from by omega], rfl, fun h => (by cases h), by rw [Int.add_zero]; exact H1⟩
  case round =>
    obtain ⟨j, b, hj0, hj, rfl, rfl, rfl, HR, HA⟩ := hrel
    by_cases hjk : j < k
    · go_wp2_with fail
      refine (enter_in w _ (d + j) (by omega) (by omega) HA).mono ?_
      rintro e w2 ⟨rfl, H2⟩
      by_cases hm : d + j + 1 ≤ 10000
      · obtain rfl : b = false := by
          cases b
          · rfl
          · have := HR.out rfl; omega
        go_wp2
        go_roundw
        case rel => exact ⟨j + 1, false, by omega, by omega, rfl, by rw [show max 0 (min (j + 1) (10000 - d)) = max 0 (min j (10000 - d)) + 1 from by omega], rfl, fun h => (by cases h), by rw [← Int.add_assoc]; exact H2⟩
        case measure => simp [intOf]; omega
      · go_wp2
        go_roundw
        case rel => exact ⟨j + 1, true, by omega, by omega, rfl, by rw [show max 0 (min (j + 1) (10000 - d)) = max 0 (min j (10000 - d)) from by omega], rfl, fun _ => (by omega), by rw [← Int.add_assoc]; exact H2⟩
        case measure => simp [intOf]; omega
    · obtain rfl : j = k := by omega
      by_cases hlow : d < 10000
      · by_cases hwk : 10000 - d > j
        · have e : max 0 (min j (10000 - d)) = j := by omega
          rw [e]
          go_wp2_with fail
          refine (depth_in w _ (d + j) HA).mono ?_
          rintro e w5 ⟨rfl, rfl⟩
          go_wp2
          go_loopw [10] (fun i w' => ∃ m : Int, 0 ≤ m ∧ m ≤ j ∧ i = .int .i64 m ∧ Hid (At w w' (d + j - m))) (fun i _ => (j - intOf i).toNat)
          case atStart => exact ⟨0, by omega, by omega, rfl, by rw [Int.sub_zero]; exact HA⟩
          case round =>
            obtain ⟨m, hm0, hm1, rfl, HB⟩ := hrel
            by_cases hmj : m < j
            · go_wp2_with fail
              refine (leave_in w _ (d + j - m) (by omega) (by omega) HB).mono ?_
              rintro e w6 ⟨rfl, H6⟩
              go_wp2
              go_roundw
              case rel => exact ⟨m + 1, by omega, by omega, rfl, by rw [show d + j - (m + 1) = d + j - m - 1 from by omega]; exact H6⟩
              case measure => simp [intOf]; omega
            · obtain rfl : m = j := by omega
              rw [show d + m - m = d from by omega] at HB
              go_wp2_with fail
              refine (depth_in w _ d HB).mono ?_
              rintro e w7 ⟨rfl, rfl⟩
              go_wp2
              go_ret
              exact ⟨by simp, HB.out.2.2⟩
        · have e : max 0 (min j (10000 - d)) = 10000 - d := by omega
          rw [e]
          go_wp2_with fail
          refine (depth_in w _ (d + j) HA).mono ?_
          rintro e w5 ⟨rfl, rfl⟩
          go_wp2
          go_loopw [10] (fun i w' => ∃ m : Int, 0 ≤ m ∧ m ≤ j ∧ i = .int .i64 m ∧ Hid (At w w' (d + j - m))) (fun i _ => (j - intOf i).toNat)
          case atStart => exact ⟨0, by omega, by omega, rfl, by rw [Int.sub_zero]; exact HA⟩
          case round =>
            obtain ⟨m, hm0, hm1, rfl, HB⟩ := hrel
            by_cases hmj : m < j
            · go_wp2_with fail
              refine (leave_in w _ (d + j - m) (by omega) (by omega) HB).mono ?_
              rintro e w6 ⟨rfl, H6⟩
              go_wp2
              go_roundw
              case rel => exact ⟨m + 1, by omega, by omega, rfl, by rw [show d + j - (m + 1) = d + j - m - 1 from by omega]; exact H6⟩
              case measure => simp [intOf]; omega
            · obtain rfl : m = j := by omega
              rw [show d + m - m = d from by omega] at HB
              go_wp2_with fail
              refine (depth_in w _ d HB).mono ?_
              rintro e w7 ⟨rfl, rfl⟩
              go_wp2
              go_ret
              exact ⟨by simp, HB.out.2.2⟩
      · have e : max 0 (min j (10000 - d)) = 0 := by omega
        · rw [e]
          go_wp2_with fail
          refine (depth_in w _ (d + j) HA).mono ?_
          rintro e w5 ⟨rfl, rfl⟩
          go_wp2
          go_loopw [10] (fun i w' => ∃ m : Int, 0 ≤ m ∧ m ≤ j ∧ i = .int .i64 m ∧ Hid (At w w' (d + j - m))) (fun i _ => (j - intOf i).toNat)
          case atStart => exact ⟨0, by omega, by omega, rfl, by rw [Int.sub_zero]; exact HA⟩
          case round =>
            obtain ⟨m, hm0, hm1, rfl, HB⟩ := hrel
            by_cases hmj : m < j
            · go_wp2_with fail
              refine (leave_in w _ (d + j - m) (by omega) (by omega) HB).mono ?_
              rintro e w6 ⟨rfl, H6⟩
              go_wp2
              go_roundw
              case rel => exact ⟨m + 1, by omega, by omega, rfl, by rw [show d + j - (m + 1) = d + j - m - 1 from by omega]; exact H6⟩
              case measure => simp [intOf]; omega
            · obtain rfl : m = j := by omega
              rw [show d + m - m = d from by omega] at HB
              go_wp2_with fail
              refine (depth_in w _ d HB).mono ?_
              rintro e w7 ⟨rfl, rfl⟩
              go_wp2
              go_ret
              exact ⟨by simp, HB.out.2.2⟩

theorem walk (a0 : Int) (a1 : Int) (w0 : (Lit.int .i64 a0).wf = true) (w1 : (Lit.int .i64 a1).wf = true) (w : World) :
    Calls Try.prog 5 #[.int .i64 a0, .int .i64 a1] w fun e w' => e = .returned (.bool true) ∧ Grown w w' := by
  by_cases h1 : a0 < -1073741824
  · go_enter Try.func5, Try.ntmps5
    go_wp2
    go_ret
    exact ⟨rfl, Grown.refl _⟩
  by_cases h2 : a0 > 1073741824
  · go_enter Try.func5, Try.ntmps5
    go_wp2
    go_ret
    exact ⟨rfl, Grown.refl _⟩
  by_cases h3 : a1 < 0
  · go_enter Try.func5, Try.ntmps5
    go_wp2
    go_ret
    exact ⟨rfl, Grown.refl _⟩
  by_cases h4 : a1 > 65536
  · go_enter Try.func5, Try.ntmps5
    go_wp2
    go_ret
    exact ⟨rfl, Grown.refl _⟩
  exact mid a0 a1 (by omega) (by omega) (by omega) (by omega) w

/-! ### THE ROW's STEP: WRITTEN OUT: LEAVE IT -/
set_option maxRecDepth 100000 in
theorem lifted (os : Os) (started : os.Started) (H : Type) (enc : TypeId × Value → H) :
    ReturnsInHanded {} Try.checked os 5 .any (Rows.fnEnterAdmitsUpToMaxDepthSpec.pre6 enc Try.prog Try.f5 Rows.fnEnterAdmitsUpToMaxDepthRow.domain false) (Rows.fnEnterAdmitsUpToMaxDepthSpec.post enc Try.prog Try.f5 false true false false) := by
  refine returnsInHanded_of_change (C := Try.checked) own started (by kernel_rfl) Try.func5
    (ChangeSpec.witness6 (enc := enc) (C := Try.checked) false ⟨#[], #[.int .i64 0, .int .i64 0], []⟩ 8 (by kernel_rfl) (by kernel_rfl) (by kernel_rfl) (by kernel_rfl)) ?_
  intro W base args ds gs before hval0 hW hcnd _
  have hval : ∀ (j : Nat) t v, Try.f5.params[j]? = some t → args[j]? = some v → Value.okWide Try.prog W .any base t v := hval0
  have hW' := hW
  obtain ⟨p, q, hA0, hV, rfl, hfz, hnd⟩ := hW
  have hA : DataW.TrodAll enc Try.prog W 0 (fun _ => true) true Try.f5.params.toList args.toList ds p := hA0
  rw [Try.params5] at hA hval
  obtain ⟨v0, vs0, d0, ds0, p0, q0, hargs, rfl, rfl, h0, r0⟩ := trodAll_cons hA
  obtain ⟨v1, vs1, d1, ds1, p1, q1, rfl, rfl, rfl, h1, r1⟩ := trodAll_cons r0
  obtain ⟨rfl, rfl, rfl⟩ := trodAll_nil r1
  obtain rfl : args = #[v0, v1] := by cases args; simp_all
  obtain ⟨rfl, rfl⟩ := trodVars_none hV
  obtain ⟨a0, rfl, rfl, rfl, w0⟩ := open_int Try.underlying3 (hval 0 3 v0 rfl rfl) h0
  obtain ⟨a1, rfl, rfl, rfl, w1⟩ := open_int Try.underlying3 (hval 1 3 v1 rfl rfl) h1
  clear hA0 hval0
  simp only [List.append_nil] at hW'
  refine (walk a0 a1 w0 w1 W).mono fun e W' ⟨he, hg⟩ => ?_
  subst he
  exact ⟨_, rfl, post_of_same (pa := []) (pv := []) hW' (fun _ _ _ => (trodAll_cons_mk (shut_bool Try.underlying4 _) trodAll_mk0)) (fun sp _ => (trodAll_cons_mk (shut_int Try.underlying3 w0) (trodAll_cons_mk (shut_int Try.underlying3 w1) trodAll_mk0))) (fun _ _ => rfl) rfl
    (hg.frame _) hg.2.1 (ok_one (by kernel_rfl) rfl (okWide_bool_mk Try.underlying4 _))⟩

theorem over : Rows.fnEnterAdmitsUpToMaxDepthRow.holds Try.pinned (OpenSpec.ofChange Rows.fnEnterAdmitsUpToMaxDepthSpec) :=
  OpenClaim.holds_of_wide 5 Try.f5 rfl rfl rfl rfl rfl rfl rfl ⟨rfl, rfl, rfl, rfl, rfl⟩ rfl rfl rfl rfl rfl (by kernel_rfl) Try.func5 (by kernel_rfl)
    (of_decide_eq_true (by kernel_rfl)) (by unfold Func.isWrapper; first | (rw [if_pos (by decide +kernel)]; kernel_rfl) | (rw [if_neg (by decide +kernel)]; exact ⟨rfl, rfl⟩))
    (fun os started H enc _ => lifted os started H enc)

/-- ████ THE STATEMENT ████ -/
theorem proved : Rows.FnEnterAdmitsUpToMaxDepthSaid :=
  over
#print axioms proved
end Go.Proofs.Qxb6612781a.fnEnterAdmitsUpToMaxDepth
