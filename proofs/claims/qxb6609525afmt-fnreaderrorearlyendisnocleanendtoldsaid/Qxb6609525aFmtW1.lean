/-
  THE WALKS: fmt.Errorf at readError's format; readError; the two callers; the law.
-/
import Derived.Test.Qxb6609525aFmtRows
import Derived.Test.Qxb6609525aFmtIs
import Derived.Stop.CallBack
import Derived.Stop.IfaceNil
import Derived.WalkKit
import Derived.WalkSpells
import Derived.Deep.RegionWith
import GoSem.ClaimData
namespace Go.Proofs.Qxb6609525aFmt
open Go.RowKit Go.Extern.Stop Go.Stop Go.Extern

theorem call16 (args : Array Value) (w : World) : (callFunc 16 args).run Tryf.prog w = ((FmtStop.errorf #[9, 58] #[29] args).run Tryf.prog w).andThen fun v w' => .ok (.value v) w' :=
  run_callFunc_extern Tryf.func16 (by kernel_rfl) (by kernel_rfl) (by kernel_rfl) (by kernel_rfl) args w
theorem fguard (name : String) (w : World) : (FmtStop.guard name).run Tryf.prog w = .ok () w := by kernel_rfl

def fmtBytes : ByteArray := ⟨#[37, 119, 58, 32, 37, 115, 58, 32, 116, 104, 101, 32, 112, 114, 111, 118, 105, 100, 101, 114, 32, 99, 108, 111, 115, 101, 100, 32, 116, 104, 101, 32, 115, 116, 114, 101, 97, 109, 32, 98, 101, 102, 111, 114, 101, 32, 100, 97, 116, 97, 58, 32, 91, 68, 79, 78, 69, 93]⟩
theorem fmt0 : FmtStop.printed? ⟨#[37, 119, 58, 32, 37, 115, 58, 32, 116, 104, 101, 32, 112, 114, 111, 118, 105, 100, 101, 114, 32, 99, 108, 111, 115, 101, 100, 32, 116, 104, 101, 32, 115, 116, 114, 101, 97, 109, 32, 98, 101, 102, 111, 114, 101, 32, 100, 97, 116, 97, 58, 32, 91, 68, 79, 78, 69, 93]⟩ 2 = some [(0, 119, false), (1, 115, false)] := by kernel_rfl
theorem fmt0r (w : World) : (FmtDoors.printed ⟨#[37, 119, 58, 32, 37, 115, 58, 32, 116, 104, 101, 32, 112, 114, 111, 118, 105, 100, 101, 114, 32, 99, 108, 111, 115, 101, 100, 32, 116, 104, 101, 32, 115, 116, 114, 101, 97, 109, 32, 98, 101, 102, 111, 114, 101, 32, 100, 97, 116, 97, 58, 32, 91, 68, 79, 78, 69, 93]⟩ 2).run Tryf.prog w = .ok [(0, 119, false), (1, 115, false)] w := by kernel_rfl
def shape9 : List UInt8 := [12, 6, 0, 0, 0, 0, 0, 0, 0, 115, 116, 114, 105, 110, 103]
theorem op9_115w (name : String) (s : ByteArray) (w : World) : (FmtStop.operand name true 115 false (.iface 9 (.string s))).run Tryf.prog w = .ok (shape9, FmtStop.pack s.data.toList) w := by kernel_rfl
theorem ptr49 (w : World) : (FmtStop.ptrTo "errors.errorString").run Tryf.prog w = .ok 49 w := by kernel_rfl
theorem elem49 (w : World) : (elemOf 49).run Tryf.prog w = .ok 51 w := by kernel_rfl
theorem isError49 (w : World) : (FmtDoors.textMethod 49 "Error").run Tryf.prog w = .ok true w := by kernel_rfl
/-- The type's name, off the given row's own datum. -/
def nameOf : DataW Unit → String
  | .iface n _ => n
  | _ => ""
def plain49 : List UInt8 := 14 :: FmtStop.pack (nameOf Rows.laid_io_EOF).toUTF8.data.toList
theorem opPlain49_119w (name : String) (a : Addr) (s : ByteArray) (w : World) (hc : w.cell? a = some (.string s)) :
    (FmtStop.operand name true 119 false (.iface 49 (.pointer (some a)))).run Tryf.prog w = .ok (plain49, s.data.toList) w := by
  have h1 : (typeStr 49).run Tryf.prog w = .ok (nameOf Rows.laid_io_EOF) w := by kernel_rfl
  have d2 : Tryf.t49.desc = .pointer 51 := rfl
  have d3 : Tryf.t51.desc = .named "errors.errorString" 50 := rfl
  simp [FmtStop.operand, h1, d2, d3, run_load, hc, plain49, nameOf, Rows.laid_io_EOF]
theorem ptr59 (w : World) : (FmtStop.ptrTo "fmt.wrapError").run Tryf.prog w = .ok 59 w := by kernel_rfl
theorem elem59 (w : World) : (elemOf 59).run Tryf.prog w = .ok 111 w := by kernel_rfl
theorem isError59 (w : World) : (FmtDoors.textMethod 59 "Error").run Tryf.prog w = .ok true w := by kernel_rfl

set_option maxRecDepth 100000 in
set_option maxHeartbeats 1000000 in
theorem errorf_any (F : Interp) (w : World) (hF : F.answers w.tape) (b : Nat) (aI : Addr) (sI url : ByteArray) (hc0 : w.cell? ⟨b, 0, none⟩ = some (.iface 49 (.pointer (some aI)))) (hc1 : w.cell? ⟨b, 1, none⟩ = some (.iface 9 (.string url))) (hs : w.cell? aI = some (.string sI)) :
    Calls Tryf.prog 13 #[.string ⟨#[37, 119, 58, 32, 37, 115, 58, 32, 116, 104, 101, 32, 112, 114, 111, 118, 105, 100, 101, 114, 32, 99, 108, 111, 115, 101, 100, 32, 116, 104, 101, 32, 115, 116, 114, 101, 97, 109, 32, 98, 101, 102, 111, 114, 101, 32, 100, 97, 116, 97, 58, 32, 91, 68, 79, 78, 69, 93]⟩, .slice (some ⟨b, 0, none⟩) 2 2] w fun e w' => ∃ b', e = .returned (.iface 59 (.pointer (some ⟨b', 0, none⟩))) ∧ w'.cell? ⟨b', 1, none⟩ = some (.iface 49 (.pointer (some aI))) ∧ w.heap.size ≤ b' ∧ Below w.heap.size w w' := by
  have hF' := answers_open hF
  have hop := opPlain49_119w "fmt.errorf" aI sI w hs
  have k1 := call16; have k2 := fguard; have k3 := fmt0; have k4 := fmt0r; have k5 := op9_115w; have k6 := ptr59; have k7 := elem59; have k8 := isError49
  go_enter Tryf.func13, Tryf.ntmps13
  go_wp2
  go_ret
  refine ⟨w.heap.size, rfl, ?_, Nat.le_refl _, ((Below.refl _ _).alloc (Nat.le_refl _) _).drew⟩
  go_simp

/-- What the walks know of memory: the three sentinels, each its own pointer, and the first one's text. -/
structure Sents (aI aE aU : Addr) (sI : ByteArray) (cI cE cU : Array Value) (tI tE tU : TypeId) (w : World) : Prop where
  gI : w.cell? ⟨0, 0, none⟩ = some (.iface 49 (.pointer (some aI)))
  gE : w.cell? ⟨1, 0, none⟩ = some (.iface 49 (.pointer (some aE)))
  gU : w.cell? ⟨2, 0, none⟩ = some (.iface 49 (.pointer (some aU)))
  sI : w.cell? aI = some (.string sI)
  bI : w.heap[aI.block]? = some (.cells cI tI (0, 0))
  bE : w.heap[aE.block]? = some (.cells cE tE (0, 0))
  bU : w.heap[aU.block]? = some (.cells cU tU (0, 0))

theorem Sents.below {aI aE aU : Addr} {sI : ByteArray} {cI cE cU : Array Value} {tI tE tU : TypeId} {w w' : World} (h : Sents aI aE aU sI cI cE cU tI tE tU w) (hb : Below w.heap.size w w') : Sents aI aE aU sI cI cE cU tI tE tU w' := by
  have l : ∀ {k : Nat} {o : Obj}, w.heap[k]? = some o → k < w.heap.size := fun e => lt_of_block e
  have c : ∀ {a : Addr} {v : Value}, w.cell? a = some v → a.block < w.heap.size := fun {a v} e => World.block_lt_of_cell? w a e
  exact ⟨(hb.cell (c h.gI)).trans h.gI, (hb.cell (c h.gE)).trans h.gE, (hb.cell (c h.gU)).trans h.gU, (hb.cell (c h.sI)).trans h.sI, (hb.block _ (l h.bI)).trans h.bI, (hb.block _ (l h.bE)).trans h.bE, (hb.block _ (l h.bU)).trans h.bU⟩

theorem Sents.drew {aI aE aU : Addr} {sI : ByteArray} {cI cE cU : Array Value} {tI tE tU : TypeId} {w : World} (h : Sents aI aE aU sI cI cE cU tI tE tU w) : Sents aI aE aU sI cI cE cU tI tE tU w.drew := h.below (Below.refl _ _).drew

set_option maxRecDepth 100000 in
set_option maxHeartbeats 1000000 in
theorem readError_eof (F : Interp) (w : World) (hF : F.answers w.tape) (B : Nat) (url : ByteArray) (aI aE aU : Addr) (sI : ByteArray) (cI cE cU : Array Value) (tI tE tU : TypeId) (hS : Hid (Sents aI aE aU sI cI cE cU tI tE tU w)) (hu : w.cell? ⟨B, 3, none⟩ = some (.string url)) :
    Calls Tryf.prog 11 #[.pointer (some ⟨B, 0, none⟩), .iface 49 (.pointer (some aE))] w fun e w' => ∃ b', e = .returned (.iface 59 (.pointer (some ⟨b', 0, none⟩))) ∧ w'.cell? ⟨b', 1, none⟩ = some (.iface 49 (.pointer (some aI))) ∧ Below w.heap.size w w' := by
  obtain ⟨i, hi, hcmp⟩ := Option.map_eq_some_iff.1 isComp
  obtain ⟨j, hj, hjs⟩ := Option.map_eq_some_iff.1 isSize
  have g0 := hS.out.gI
  have g1 := hS.out.gE
  have hlt : (0 : Nat) < w.heap.size := World.block_lt_of_cell? w ⟨0, 0, none⟩ g0
  have hBl : B < w.heap.size := World.block_lt_of_cell? w ⟨B, 3, none⟩ hu
  have heq := run_eql_iface_ptr_same (P := Tryf.prog) w aE Tryf.underlying29 Tryf.underlying49 hi hcmp hj
  go_enter Tryf.func11, Tryf.ntmps11
  go_wp2
  clear heq
  have hb1 : Below w.heap.size w ((w.alloc (.cells #[.iface 49 (.pointer (some aI)), .iface 9 (.string url)] 20)).drew) := ((Below.refl _ _).alloc (Nat.le_refl _) _).drew
  have x0 : ((w.alloc (.cells #[.iface 49 (.pointer (some aI)), .iface 9 (.string url)] 20)).drew).cell? ⟨w.heap.size, 0, none⟩ = some (.iface 49 (.pointer (some aI))) := by go_simp
  have x1 : ((w.alloc (.cells #[.iface 49 (.pointer (some aI)), .iface 9 (.string url)] 20)).drew).cell? ⟨w.heap.size, 1, none⟩ = some (.iface 9 (.string url)) := by go_simp
  have xs : ((w.alloc (.cells #[.iface 49 (.pointer (some aI)), .iface 9 (.string url)] 20)).drew).cell? aI = some (.string sI) := (hS.out.below hb1).sI
  have XS : Hid (_ ∧ _ ∧ _) := ⟨x0, x1, xs⟩
  clear x0 x1 xs
  go_region_with (go_at_call 13; refine (errorf_any F ((w.alloc (.cells #[.iface 49 (.pointer (some aI)), .iface 9 (.string url)] 20)).drew) hF w.heap.size aI sI url XS.out.1 XS.out.2.1 XS.out.2.2).mono ?_; rintro e w2 ⟨b', rfl, hc, hge, hb2⟩)
  all_goals
    go_wp2
    go_ret
    exact ⟨b', rfl, hc, hb1.trans (hb2.mono hb1.size)⟩

set_option maxRecDepth 100000 in
set_option maxHeartbeats 1000000 in
theorem readError_unexp (F : Interp) (w : World) (hF : F.answers w.tape) (B : Nat) (url : ByteArray) (aI aE aU : Addr) (sI : ByteArray) (cI cE cU : Array Value) (tI tE tU : TypeId) (hS : Hid (Sents aI aE aU sI cI cE cU tI tE tU w)) (hne : aU ≠ aE) (hu : w.cell? ⟨B, 3, none⟩ = some (.string url)) :
    Calls Tryf.prog 11 #[.pointer (some ⟨B, 0, none⟩), .iface 49 (.pointer (some aU))] w fun e w' => ∃ b', e = .returned (.iface 59 (.pointer (some ⟨b', 0, none⟩))) ∧ w'.cell? ⟨b', 1, none⟩ = some (.iface 49 (.pointer (some aI))) ∧ Below w.heap.size w w' := by
  obtain ⟨i, hi, hcmp⟩ := Option.map_eq_some_iff.1 isComp
  obtain ⟨j, hj, hjs⟩ := Option.map_eq_some_iff.1 isSize
  have g0 := hS.out.gI
  have g1 := hS.out.gE
  have g2 := hS.out.gU
  have hlt : (0 : Nat) < w.heap.size := World.block_lt_of_cell? w ⟨0, 0, none⟩ g0
  have hBl : B < w.heap.size := World.block_lt_of_cell? w ⟨B, 3, none⟩ hu
  have heq := run_eql_iface_ptr_other (P := Tryf.prog) w Tryf.underlying29 Tryf.underlying49 hi hcmp hj (by rw [hjs]; decide) hne hS.out.bU hS.out.bE
  go_enter Tryf.func11, Tryf.ntmps11
  go_wp2_with (go_at_call 12; refine (is_same aU _).mono ?_; rintro e wz ⟨rfl, hz⟩; have hz' := hz.symm; subst hz'; clear hz)
  clear heq
  have hb1 : Below w.heap.size w ((w.alloc (.cells #[.iface 49 (.pointer (some aI)), .iface 9 (.string url)] 20)).drew) := ((Below.refl _ _).alloc (Nat.le_refl _) _).drew
  have x0 : ((w.alloc (.cells #[.iface 49 (.pointer (some aI)), .iface 9 (.string url)] 20)).drew).cell? ⟨w.heap.size, 0, none⟩ = some (.iface 49 (.pointer (some aI))) := by go_simp
  have x1 : ((w.alloc (.cells #[.iface 49 (.pointer (some aI)), .iface 9 (.string url)] 20)).drew).cell? ⟨w.heap.size, 1, none⟩ = some (.iface 9 (.string url)) := by go_simp
  have xs : ((w.alloc (.cells #[.iface 49 (.pointer (some aI)), .iface 9 (.string url)] 20)).drew).cell? aI = some (.string sI) := (hS.out.below hb1).sI
  have XS : Hid (_ ∧ _ ∧ _) := ⟨x0, x1, xs⟩
  clear x0 x1 xs
  go_region_with (go_at_call 13; refine (errorf_any F ((w.alloc (.cells #[.iface 49 (.pointer (some aI)), .iface 9 (.string url)] 20)).drew) hF w.heap.size aI sI url XS.out.1 XS.out.2.1 XS.out.2.2).mono ?_; rintro e w2 ⟨b', rfl, hc, hge, hb2⟩)
  all_goals
    go_wp2
    go_ret
    exact ⟨b', rfl, hc, hb1.trans (hb2.mono hb1.size)⟩

end Go.Proofs.Qxb6609525aFmt
