/-
  THE ROW AND THE CARD of FnReadErrorEarlyEndIsNoCleanEnd: told (fmt's text by the authors' Lean function) and tied (the three sentinels).
-/
import Derived.Test.Qxb6609525aFmtW2
import Derived.Test.Qxb6609525aFmtTie
import Derived.Test.Qxb6609525aFmtCards
import Derived.ProofKit
import Derived.LaidMore
import Derived.OpenShut
import Derived.ShutString
import Derived.Stop.JoinedAt
import Derived.Stop.Texts
import Derived.Stop.JoinedTold
import Derived.Stop.LaidErr
import Derived.Stop.LaidTwo
import Derived.SevenTiedAt
import Derived.WalkSmall
namespace Go.Proofs.Qxb6609525aFmt
open Go.ChangeShapes Go.WideShapes Go.ChangeAt Go.RowKit Go.Kit
open Go.ChangeMaps (open_string shut_string)
open Go.Extern.Stop Go.Stop Go.Extern

/-- Three listed sentinels of one type: three different pointers, and each one's row of cells. -/
theorem laid_sentinels3 {P : Program} {n0 n1 n2 nm : String} {text0 text1 text2 : List UInt8} {r : List (String × DataW Unit)} {W : World} {g0 g1 g2 : Nat} {ti tp te ts : TypeId} {ms : Array (String × TypeId)} {f : Field}
    (h : laidMet P ((n0, .iface nm (.ptr (.agg [.lit (.string text0)]))) :: (n1, .iface nm (.ptr (.agg [.lit (.string text1)]))) :: (n2, .iface nm (.ptr (.agg [.lit (.string text2)]))) :: r) W)
    (hg0 : P.globalNamed n0 = some g0) (ht0 : (P.globals[g0]?).map (·.type) = some ti) (hg1 : P.globalNamed n1 = some g1) (ht1 : (P.globals[g1]?).map (·.type) = some ti) (hg2 : P.globalNamed n2 = some g2) (ht2 : (P.globals[g2]?).map (·.type) = some ti)
    (hi : P.underlying ti = some (.interface ms)) (hrow : ∀ u, P.typeName? 3 u = some nm → u = tp)
    (hp : P.underlying tp = some (.pointer te)) (he : P.underlying te = some (.struct #[f])) (hft : f.type = ts) (hfo : f.offset = 0) (hs : P.underlying ts = some .string) (hc : P.cellsOf te = 1) (hcs : P.cellsOf ts = 1) :
    ∃ (a0 a1 a2 : Addr) (s2 : ByteArray) (c0 c1 c2 : Array Value) (t0 t1 t2 : TypeId),
      W.cell? ⟨g0, 0, none⟩ = some (.iface tp (.pointer (some a0))) ∧ W.cell? ⟨g1, 0, none⟩ = some (.iface tp (.pointer (some a1))) ∧ W.cell? ⟨g2, 0, none⟩ = some (.iface tp (.pointer (some a2))) ∧ W.var? P n2 = some #[.iface tp (.pointer (some a2))] ∧
      W.cell? a2 = some (.string s2) ∧ a0 ≠ a1 ∧ a0 ≠ a2 ∧ a1 ≠ a2 ∧
      W.heap[a0.block]? = some (.cells c0 t0 (0, 0)) ∧ W.heap[a1.block]? = some (.cells c1 t1 (0, 0)) ∧ W.heap[a2.block]? = some (.cells c2 t2 (0, 0)) := by
  obtain ⟨ps, ⟨g0', t0', cs0, f0, p0, q0, hg0', ht0', hv0, hd0, ⟨g1', t1', cs1, f1, p1, q1, hg1', ht1', hv1, hd1, ⟨g2', t2', cs2, f2, p2, q2, hg2', ht2', hv2, hd2, _, e2⟩, e1⟩, e0⟩, hnd, hrows⟩ := h
  obtain rfl := Option.some.inj (hg0.symm.trans hg0')
  obtain rfl := Option.some.inj (hg1.symm.trans hg1')
  obtain rfl := Option.some.inj (hg2.symm.trans hg2')
  obtain rfl := Option.some.inj (ht0.symm.trans ht0')
  obtain rfl := Option.some.inj (ht1.symm.trans ht1')
  obtain rfl := Option.some.inj (ht2.symm.trans ht2')
  subst e2
  subst e1
  subst e0
  obtain ⟨l0⟩ := cs0
  obtain ⟨l1⟩ := cs1
  obtain ⟨l2⟩ := cs2
  have ok0 : ∀ u v, l0 = [.iface u v] → Value.okWide P W .any 0 u v := fun u v e => by
    subst e
    exact (hrows g0 0 (by simp [MemPlace.row])).2 u v (by simpa using World.var?_cell hg0' hv0 0)
  have ok1 : ∀ u v, l1 = [.iface u v] → Value.okWide P W .any 0 u v := fun u v e => by
    subst e
    exact (hrows g1 0 (by simp [MemPlace.row])).2 u v (by simpa using World.var?_cell hg1' hv1 0)
  have ok2 : ∀ u v, l2 = [.iface u v] → Value.okWide P W .any 0 u v := fun u v e => by
    subst e
    exact (hrows g2 0 (by simp [MemPlace.row])).2 u v (by simpa using World.var?_cell hg2' hv2 0)
  obtain ⟨a0, s0, rfl, hc0, hs0, hz0, rfl⟩ := errorString_of_trod hi hrow hp he hft hfo hs hc hcs hd0 ok0
  obtain ⟨a1, s1, rfl, hc1, hs1, hz1, rfl⟩ := errorString_of_trod hi hrow hp he hft hfo hs hc hcs hd1 ok1
  obtain ⟨a2, s2, rfl, hc2, hs2, hz2, rfl⟩ := errorString_of_trod hi hrow hp he hft hfo hs hc hcs hd2 ok2
  obtain ⟨c0, t0, hb0⟩ := (hrows a0.block a0.off (by simp [MemPlace.row])).1
  obtain ⟨c1, t1, hb1⟩ := (hrows a1.block a1.off (by simp [MemPlace.row])).1
  obtain ⟨c2, t2, hb2⟩ := (hrows a2.block a2.off (by simp [MemPlace.row])).1
  refine ⟨a0, a1, a2, s2, c0, c1, c2, t0, t1, t2, by simpa using World.var?_cell hg0 hv0 0, by simpa using World.var?_cell hg1 hv1 0, by simpa using World.var?_cell hg2 hv2 0, hv2, hc2, ?_, ?_, ?_, hb0, hb1, hb2⟩
  · rintro rfl
    simp [MemPlace.row] at hnd
  · rintro rfl
    simp [MemPlace.row] at hnd
  · rintro rfl
    simp [MemPlace.row] at hnd

theorem own : ownKnob Tryf.prog.godebug = none := by kernel_rfl
theorem laidOut : laidOutB Tryf.pinned.checked.prog = true := by kernel_rfl
theorem stops : Tryf.pinned.checked.prog.stops = ["fmt.errorf"] := by kernel_rfl
theorem stopKnobs : Tryf.pinned.checked.prog.stopKnobs = [] := by kernel_rfl
theorem quiet (os : Os) : Stop.quiet Tryf.pinned.checked.prog os := by
  intro k hk
  rw [stopKnobs] at hk
  cases hk

def laid3 : List (String × DataW Unit) := Rows.fnReadErrorEarlyEndIsNoCleanEndRow.laid

/-- The one variable that the specification names. -/
def vI : String := Rows.fnReadErrorEarlyEndIsNoCleanEndSpec.vars.headD ""

theorem row49 (u : TypeId) (h : Tryf.prog.typeName? 3 u = some (nameOf Rows.laid_io_EOF)) : u = 49 := by
  exact typeName_ptr_named (P := Tryf.prog) (nm := "errors.errorString") (tp := 49) (by kernel_rfl) (by kernel_rfl) (by decide) u (h.trans (by decide +kernel))

theorem door_met (os : Os) (args : Array Value) : laidMetH Tryf.prog laid3 ((World.doorLaid Tryf.prog 400 os).forCall (fun _ _ => 0) ⟨#[], args, []⟩).memory :=
  laidMetH_of_parts3 (fuel := 8) (laidMet_of_run' 8 (by kernel_rfl) (by kernel_rfl)) (by kernel_rfl) (by kernel_rfl)

set_option maxRecDepth 100000 in
set_option maxHeartbeats 1000000 in
theorem lifted (os : Os) (started : os.Started) (H : Type) (enc : TypeId × Value → H) :
    ReturnsInTold none {} Tryf.checked os 4 .any Input.okWide ((OpenSpec.ofChange Rows.fnReadErrorEarlyEndIsNoCleanEndSpec).preRow enc Tryf.prog Tryf.f4 [] false laid3)
      (fun F => ((OpenSpec.ofChange Rows.fnReadErrorEarlyEndIsNoCleanEndSpec).at F).post enc Tryf.prog Tryf.f4 false true false false) (aloneAtReturn Tryf.prog) nothingAlways := by
  refine returnsInTold_of_row (C := Tryf.checked) (s := OpenSpec.ofChange Rows.fnReadErrorEarlyEndIsNoCleanEndSpec) (by kernel_rfl) own started (by kernel_rfl) Tryf.func4
    (OpenSpec.witness_stopped_at (enc := enc) (C := Tryf.checked) false (World.doorLaid Tryf.prog 400 os) #[.string ⟨#[]⟩] rfl (by kernel_rfl) (by kernel_rfl) (by kernel_rfl)
      (OpenSpec.preRow_of_B rfl 8 (by kernel_rfl) (by kernel_rfl) (door_met os _))) ?_
  intro F W base args ds gs before _ hF hval0 hW _ _ _ hL _
  have hval : ∀ (j : Nat) t v, Tryf.f4.params[j]? = some t → args[j]? = some v → Value.okWide Tryf.prog W .any base t v := hval0
  have hW' := hW
  obtain ⟨p, q, hA0, hV0, rfl, hfz, hnd⟩ := hW
  have hA : DataW.TrodAll enc Tryf.prog W 0 (fun _ => true) true Tryf.f4.params.toList args.toList ds p := hA0
  rw [Tryf.params4] at hA hval
  obtain ⟨v0, d0, rfl, rfl, h0⟩ := trodAll_one hA
  obtain ⟨s, rfl, rfl, rfl, ws⟩ := open_string Tryf.underlying9 (hval 0 9 v0 rfl rfl) h0
  have hLp : laidMet Tryf.prog laid3 W := by rw [MakeChecks.laidMetH_plain _ _ _ (by kernel_rfl)] at hL; exact hL
  obtain ⟨aE, aU, aI, sI, cE, cU, cI, tE, tU, tI, gE, gU, gI, hv, hsI, n1, n2, n3, bE, bU, bI⟩ := laid_sentinels3 (g0 := 1) (g1 := 2) (g2 := 0) (ti := 29) (tp := 49) (te := 51) (ts := 9) hLp (by kernel_rfl) (by kernel_rfl) (by kernel_rfl) (by kernel_rfl) (by kernel_rfl) (by kernel_rfl)
    Tryf.underlying29 row49 Tryf.underlying49 Tryf.underlying51 rfl rfl Tryf.underlying9 (by kernel_rfl) (by kernel_rfl)
  have vr : ∀ {X : World}, X.var? Tryf.prog vI = some #[.iface 49 (.pointer (some aI))] → ∀ sp : Nat → Bool, DataW.TrodVars enc Tryf.prog X sp [vI] [tok enc (.iface 49 (.pointer (some aI)))] [.cell 0 0] :=
    fun x sp => vars_read1 enc (by kernel_rfl) (by kernel_rfl) Tryf.underlying29 x trivial sp
  have hV : DataW.TrodVars enc Tryf.prog W (fun _ => true) [vI] gs q := hV0
  obtain ⟨rfl, rfl⟩ := hV.unique (vr hv _)
  clear hA0 hV0 hval0 hL hLp
  have hS : Sents aI aE aU sI cI cE cU tI tE tU W := ⟨gI, gE, gU, hsI, bI, bE, bU⟩
  refine (law_walk F.told W hF s ws aI aE aU sI cI cE cU tI tE tU hS (Ne.symm n2) (Ne.symm n3) (Ne.symm n1)).mono fun e W' ⟨he, hbl⟩ => ?_
  subst he
  refine ⟨_, rfl, _, _, _, [], [], [.cell 0 0], hW', ?_, ?_, ?_, hbl.frame _, fun h => by cases h⟩
  · exact trodAll_mk1 (shut_bool Tryf.underlying4 true)
  · exact trodAll_mk1 (shut_string Tryf.underlying9 ws)
  · exact vr (var?_below (g := 0) hbl (by kernel_rfl) (World.block_lt_of_cell? W ⟨0, 0, none⟩ gI) hv) _

theorem card_holds : Rows.FnReadErrorEarlyEndIsNoCleanEndToldSaid :=
  Claim7.holds_of_told_tied_any_at .later 4 Tryf.f4 "fmt.errorf" [] [] _ _ _ _ _ (by kernel_rfl) rfl rfl rfl laidOut (by kernel_rfl) rfl ⟨rfl, rfl, rfl, rfl, rfl, rfl, rfl⟩ rfl rfl (by kernel_rfl) (by kernel_rfl) Tryf.func4 (by kernel_rfl)
    (of_decide_eq_true (by kernel_rfl)) (of_decide_eq_true (by kernel_rfl)) stops.symm rfl stopKnobs.symm (by kernel_rfl)
    (by kernel_rfl) (by kernel_rfl) (by kernel_rfl) (by kernel_rfl) (by kernel_rfl) (by kernel_rfl) (by kernel_rfl) (by kernel_rfl) (by kernel_rfl) rfl (by kernel_rfl) rfl rfl
    rfl rfl
    rfl (by kernel_rfl) (by kernel_rfl) (by kernel_rfl) (by decide) (by kernel_rfl) fnReadErrorEarlyEndIsNoCleanEnd_row_tie
    (OpenClaim.moreEntering_of (by kernel_rfl) (by kernel_rfl) (by kernel_rfl) (by kernel_rfl) (by kernel_rfl) (by kernel_rfl) (by kernel_rfl) (by kernel_rfl) (by kernel_rfl) (by kernel_rfl))
    ⟨_, WideRow.started_initial, quiet _⟩
    (fun os started _ H enc _ => lifted os started H enc)

end Go.Proofs.Qxb6609525aFmt
