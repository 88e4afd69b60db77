/-
  THE WALKS of ZZreadErrorOfEOF, ZZreadErrorOfUnexpectedEOF and of the law.
-/
import Derived.Test.Qxb6609525aFmtW1
import Derived.BigQuiet
import Derived.Deep.QuietTactic
namespace Go.Proofs.Qxb6609525aFmt
open Go.RowKit Go.Extern.Stop Go.Stop Go.Extern

set_option maxRecDepth 100000 in
set_option maxHeartbeats 1000000 in
theorem zzEof_any (F : Interp) (w : World) (hF : F.answers w.tape) (url : ByteArray) (aI aE aU : Addr) (sI : ByteArray) (cI cE cU : Array Value) (tI tE tU : TypeId) (hS : Hid (Sents aI aE aU sI cI cE cU tI tE tU w)) (n1 : aI ≠ aE) (n2 : aI ≠ aU) :
    Calls Tryf.prog 8 #[.string url] w fun e w' => e = .returned (.tuple #[.bool true, .bool false, .bool false]) ∧ Below w.heap.size w w' := by
  have g1 := hS.out.gE
  have hlt : (1 : Nat) < w.heap.size := World.block_lt_of_cell? w ⟨1, 0, none⟩ g1
  go_enter Tryf.func8, Tryf.ntmps8
  go_wp2_with fail
  obtain ⟨W1, hW1⟩ : ∃ W1, W1 = w.alloc (.cells #[.nilFunc, .nilIface, .pointer none, .string url, .int .i64 0, .pointer none, .int .i64 0, .pointer none, .pointer none, .map none, .pointer none, .bool false, .slice none 0 0, .nilIface] 46) := ⟨_, rfl⟩
  rw [← hW1]
  have hb1 : Below w.heap.size w W1 := by rw [hW1]; exact (Below.refl _ _).alloc (Nat.le_refl _) _
  have hu : W1.cell? ⟨w.heap.size, 3, none⟩ = some (.string url) := by rw [hW1]; go_simp
  have hF1 : F.answers W1.tape := by rw [hW1]; exact hF
  clear hW1
  have S1 : Hid (Sents aI aE aU sI cI cE cU tI tE tU W1) := hS.out.below hb1
  refine (readError_eof F W1 hF1 w.heap.size url aI aE aU sI cI cE cU tI tE tU S1 hu).mono ?_
  rintro e w2 ⟨b', rfl, hc, hb2⟩
  have S2 : Hid (Sents aI aE aU sI cI cE cU tI tE tU w2) := S1.out.below hb2
  have B2 : Hid (Below w.heap.size w w2) := hb1.trans (hb2.mono hb1.size)
  have c0 := S2.out.gI
  have c1 := S2.out.gE
  have c2 := S2.out.gU
  clear hb1 hb2 hu hF1 g1
  go_wp2_with fail
  go_quiet ((first | (go_at_call_of 12 aI; exact Calls.quiet_of_same (is_wrap_same b' 0 aI _ hc)) | (go_at_call_of 12 aE; exact Calls.quiet_of_same (is_wrap_other b' 0 aE aI cI cE tI tE _ hc n1 S2.out.bI S2.out.bE)) | (go_at_call_of 12 aU; exact Calls.quiet_of_same (is_wrap_other b' 0 aU aI cI cU tI tU _ hc n2 S2.out.bI S2.out.bU))))
  go_wp2
  go_ret3
  exact ⟨rfl, B2.out.trans ⟨rfl, rfl, rfl, Nat.le_refl _, fun _ _ => rfl⟩⟩

set_option maxRecDepth 100000 in
set_option maxHeartbeats 1000000 in
theorem zzUnexp_any (F : Interp) (w : World) (hF : F.answers w.tape) (url : ByteArray) (aI aE aU : Addr) (sI : ByteArray) (cI cE cU : Array Value) (tI tE tU : TypeId) (hS : Hid (Sents aI aE aU sI cI cE cU tI tE tU w)) (n1 : aI ≠ aE) (n2 : aI ≠ aU) (n3 : aU ≠ aE) :
    Calls Tryf.prog 9 #[.string url] w fun e w' => e = .returned (.tuple #[.bool true, .bool false, .bool false]) ∧ Below w.heap.size w w' := by
  have g1 := hS.out.gU
  have hlt : (2 : Nat) < w.heap.size := World.block_lt_of_cell? w ⟨2, 0, none⟩ g1
  go_enter Tryf.func9, Tryf.ntmps9
  go_wp2_with fail
  obtain ⟨W1, hW1⟩ : ∃ W1, W1 = w.alloc (.cells #[.nilFunc, .nilIface, .pointer none, .string url, .int .i64 0, .pointer none, .int .i64 0, .pointer none, .pointer none, .map none, .pointer none, .bool false, .slice none 0 0, .nilIface] 46) := ⟨_, rfl⟩
  rw [← hW1]
  have hb1 : Below w.heap.size w W1 := by rw [hW1]; exact (Below.refl _ _).alloc (Nat.le_refl _) _
  have hu : W1.cell? ⟨w.heap.size, 3, none⟩ = some (.string url) := by rw [hW1]; go_simp
  have hF1 : F.answers W1.tape := by rw [hW1]; exact hF
  clear hW1
  have S1 : Hid (Sents aI aE aU sI cI cE cU tI tE tU W1) := hS.out.below hb1
  refine (readError_unexp F W1 hF1 w.heap.size url aI aE aU sI cI cE cU tI tE tU S1 n3 hu).mono ?_
  rintro e w2 ⟨b', rfl, hc, hb2⟩
  have S2 : Hid (Sents aI aE aU sI cI cE cU tI tE tU w2) := S1.out.below hb2
  have B2 : Hid (Below w.heap.size w w2) := hb1.trans (hb2.mono hb1.size)
  have c0 := S2.out.gI
  have c1 := S2.out.gE
  have c2 := S2.out.gU
  clear hb1 hb2 hu hF1 g1
  go_wp2_with fail
  go_quiet ((first | (go_at_call_of 12 aI; exact Calls.quiet_of_same (is_wrap_same b' 0 aI _ hc)) | (go_at_call_of 12 aE; exact Calls.quiet_of_same (is_wrap_other b' 0 aE aI cI cE tI tE _ hc n1 S2.out.bI S2.out.bE)) | (go_at_call_of 12 aU; exact Calls.quiet_of_same (is_wrap_other b' 0 aU aI cI cU tI tU _ hc n2 S2.out.bI S2.out.bU))))
  go_wp2
  go_ret3
  exact ⟨rfl, B2.out.trans ⟨rfl, rfl, rfl, Nat.le_refl _, fun _ _ => rfl⟩⟩

set_option maxRecDepth 100000 in
set_option maxHeartbeats 1000000 in
theorem law_walk (F : Interp) (w : World) (hF : F.answers w.tape) (url : ByteArray) (hz : url.size ≤ maxLen) (aI aE aU : Addr) (sI : ByteArray) (cI cE cU : Array Value) (tI tE tU : TypeId) (hS : Hid (Sents aI aE aU sI cI cE cU tI tE tU w)) (n1 : aI ≠ aE) (n2 : aI ≠ aU) (n3 : aU ≠ aE) :
    Calls Tryf.prog 4 #[.string url] w fun e w' => e = .returned (.bool true) ∧ Below w.heap.size w w' := by
  unfold maxLen at hz
  by_cases hlen : url.size ≤ 1048576
  · go_enter Tryf.func4, Tryf.ntmps4
    go_wp2_with (first | (go_at_call 7; go_in) | (go_at_call 8; refine (zzEof_any F w hF url aI aE aU sI cI cE cU tI tE tU hS n1 n2).mono ?_; rintro e w2 ⟨rfl, hb2⟩))
    have hF2 : F.answers w2.tape := by rw [hb2.tape]; exact hF
    refine (zzUnexp_any F w2 hF2 url aI aE aU sI cI cE cU tI tE tU (hS.out.below hb2) n1 n2 n3).mono ?_
    rintro e w3 ⟨rfl, hb3⟩
    have hb : Below w.heap.size w w3 := hb2.trans (hb3.mono hb2.size)
    clear hb2 hb3 hF2
    go_wp2
    go_ret
    exact ⟨rfl, hb⟩
  · go_enter Tryf.func4, Tryf.ntmps4
    go_wp2_with (go_at_call 7; go_in)
    go_ret
    exact ⟨rfl, Below.refl _ _⟩

end Go.Proofs.Qxb6609525aFmt
