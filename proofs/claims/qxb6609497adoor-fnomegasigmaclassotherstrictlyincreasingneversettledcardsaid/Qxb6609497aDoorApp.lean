/-
  'append' ON A ROW OF THE CALL's OWN, AS ONE STEP OF A REGION THAT DRAWS: there is room, or it grows; in either case the row lies where it lay or in a new block.
-/
import Derived.WalkKit
import Derived.Deep.RegionLaw
namespace Go.Proofs.Qxb6609497aDoor

/-- An append to an owned row: the row lies behind it where it lay, or in a new block. -/
theorem run_append_place {P : Program} (w : World) (base : Nat) (t ty e : TypeId) (i : TypeInfo) (z : Value) (size bytes : Nat) (ht : P.underlying t = some (.slice e)) (hi : P.info? e = some i) (hz : i.zero = some z)
    (hsize : i.size = size) (hby : i.bytes = bytes) (hzs : z.cells.size = size) (hsz : 0 < size)
    (v : Value) (n : Nat) (xs : List Value) (hown : w.ownsRow base e size v n xs)
    (a : Addr) (m c : Nat) (news : List Value) (hl : news.length = m * size) (hnews : ∀ j u, news[j]? = some u → w.cell? (a.add j) = some u) (h1 : ∀ u ∈ news, u.oneCell' = true) (hm : 0 < m)
    (h63 : n + m ≤ maxLen) (hbytes : (n + m) * bytes ≤ 140737488355328) (hbase : base ≤ w.heap.size) :
    ∃ g cap w', (Builtin.append_ #[t, t] ty #[v, .slice (some a) m c]).run P w = .ok (.slice (some ⟨g, 0, none⟩) (n + m) cap) w' ∧ w'.ownsRow base e size (.slice (some ⟨g, 0, none⟩) (n + m) cap) (n + m) (xs ++ news) ∧ w.grownBy w' v.ownBlock ∧
      (v.ownBlock = some g ∨ w.heap.size ≤ g) := by
  have lift : ∀ (w' : World) (v' : Value), w'.ownsRow w.heap.size e size v' (n + m) (xs ++ news) → ∃ g cap, v' = .slice (some ⟨g, 0, none⟩) (n + m) cap ∧ w.heap.size ≤ g ∧ w'.ownsRow base e size v' (n + m) (xs ++ news) := by
    intro w' v' h
    rcases h.2 with ⟨_, h0⟩ | ⟨g, cap, cur, hv, hg, r⟩
    · omega
    · exact ⟨g, cap, hv, hg, h.1, .inr ⟨g, cap, cur, hv, by omega, r⟩⟩
  rcases hown.2 with ⟨rfl, h0⟩ | ⟨g, cap, cur, rfl, hg, hh, hnc, hcm, hcs, htake⟩
  · subst h0
    obtain rfl : xs = [] := List.eq_nil_of_length_eq_zero (by simpa using hown.1)
    obtain ⟨v', w', hrun, r1, r2, _⟩ := run_append_own (P := P) w w.heap.size t ty e i z size bytes ht hi hz hsize hby hzs hsz (.slice none 0 0) 0 [] (World.ownsRow_nil w _ e size) a m c news hl hnews h1 h63 hbytes (Nat.le_refl _)
    obtain ⟨g, cap, rfl, hg, hb⟩ := lift w' v' r1
    exact ⟨g, cap, w', hrun, hb, r2, .inr hg⟩
  · by_cases hroom : n + m ≤ cap
    · obtain ⟨w', hrun, r1, r2⟩ := run_append_fits (P := P) w base t ty e i size ht hi hsize g n cap xs hown a m c news hl hnews h1 hroom
      exact ⟨g, cap, w', hrun, r1, r2, .inl rfl⟩
    · obtain ⟨v', w', hrun, r1, r2⟩ := run_append_arg_grows (P := P) w t ty e i z size bytes ht hi hz hsize hby hzs hsz ⟨g, 0, none⟩ n cap xs hown.1 (hown.cells rfl) a m c news hl hnews (by omega) h63 hbytes
      obtain ⟨g', cap', rfl, hg', hb⟩ := lift w' v' r1
      exact ⟨g', cap', w', hrun, hb, ⟨r2.os, r2.tape, r2.output, r2.size, fun k hk _ => r2.block k hk (by simp)⟩, .inr hg'⟩

/-- The same, as one step of a region that draws. -/
theorem step_append_place {P : Program} {ops : Array Oper} {o : Oper} {a : Act} {w : World} {K : Act → World → Prop} {Q : Exit → Act → World → Prop} {E : Prop}
    (hg : o.guard = none) (s x : Operand) (t : TypeId) (hop : o.op = Op.call { callee := Callee.builtin Builtin.append, args := #[s, x], argTypes := #[t, t] })
    (base : Nat) (e : TypeId) (i : TypeInfo) (z : Value) (size bytes : Nat) (ht : P.underlying t = some (.slice e)) (hi : P.info? e = some i) (hz : i.zero = some z)
    (hsize : i.size = size) (hby : i.bytes = bytes) (hzs : z.cells.size = size) (hsz : 0 < size)
    (v : Value) (n : Nat) (xs : List Value) (hs : a.eval s = v) (hown : w.ownsRow base e size v n xs)
    (ad : Addr) (m c : Nat) (news : List Value) (hx : a.eval x = .slice (some ad) m c) (hl : news.length = m * size) (hnews : ∀ j u, news[j]? = some u → w.cell? (ad.add j) = some u) (h1 : ∀ u ∈ news, u.oneCell' = true) (hm : 0 < m)
    (h63 : n + m ≤ maxLen) (hbytes : (n + m) * bytes ≤ 140737488355328) (hbase : base ≤ w.heap.size)
    (hK : ∀ g cap w', w'.ownsRow base e size (.slice (some ⟨g, 0, none⟩) (n + m) cap) (n + m) (xs ++ news) → w.grownBy w' v.ownBlock → (v.ownBlock = some g ∨ w.heap.size ≤ g) → K (a.put o.dst (.slice (some ⟨g, 0, none⟩) (n + m) cap)) w') :
    if Region.wanted o (yielded ops a.tmps) = true then Oper.wp P o a w K Q else E := by
  have hw : Region.wanted o (yielded ops a.tmps) = true := by simp [Region.wanted, hg]
  rw [if_pos hw]
  obtain ⟨g, cap, w', hrun, r1, r2, r3⟩ := run_append_place (P := P) w base t o.type e i z size bytes ht hi hz hsize hby hzs hsz v n xs hown ad m c news hl hnews h1 hm h63 hbytes hbase
  unfold Oper.wp
  simp [execOp, hop, resolve, invoke, builtin, hs, hx, hrun, Result.andThen]
  exact hK g cap w' r1 r2 r3

end Go.Proofs.Qxb6609497aDoor
