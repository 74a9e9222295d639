/-
  append onto a row of the call's own, AND WHAT WAS READ OFF THE OLD ROW STILL STANDS THERE: a step's law for a region that draws its order. Over any program.
-/
import Derived.Test.Qxb6600921aMem
import Derived.Deep.AppendLies
import Derived.Deep.RegionLawGrows
namespace Go.Proofs.Qxb6600921a
open Go.RowKit
set_option linter.unusedVariables false

theorem owns_base {w : World} {b b' : Nat} {e : TypeId} {size : Nat} {v : Value} {n : Nat} {xs : List Value} (h : w.ownsRow b e size v n xs) (hb : b' ≤ b) : w.ownsRow b' e size v n xs := by
  obtain ⟨h1, h2⟩ := h
  refine ⟨h1, ?_⟩
  rcases h2 with h2 | ⟨g, cap, cur, hv, hg, r⟩
  · exact Or.inl h2
  · exact Or.inr ⟨g, cap, cur, hv, Nat.le_trans hb hg, r⟩

theorem run_append_keeps {P : Program} (w : World) (t ty : TypeId) (base : Nat) (e : TypeId) (i : TypeInfo) (z : Value) (size bytes : Nat) (ht : P.underlying t = some (.slice e)) (hi : P.info? e = some i) (hz : i.zero = some z)
    (hsize : i.size = size) (hby : i.bytes = bytes) (hzs : z.cells.size = size) (hsz : 0 < size)
    (g n cap : Nat) (xs : List Value) (hown : w.ownsRow base e size (.slice (some ⟨g, 0, none⟩) n cap) n xs)
    (ad : Addr) (m c : Nat) (news : List Value) (hl : news.length = m * size) (hnews : ∀ j u, news[j]? = some u → w.cell? (ad.add j) = some u) (h1 : ∀ u ∈ news, u.oneCell' = true)
    (hm : 0 < m) (h63 : n + m ≤ maxLen) (hbytes : (n + m) * bytes ≤ 140737488355328) (hbase : base ≤ w.heap.size) :
    ∃ g' cap' w', (Builtin.append_ #[t, t] ty #[.slice (some ⟨g, 0, none⟩) n cap, .slice (some ad) m c]).run P w = .ok (.slice (some ⟨g', 0, none⟩) (n + m) cap') w' ∧
      w'.ownsRow base e size (.slice (some ⟨g', 0, none⟩) (n + m) cap') (n + m) (xs ++ news) ∧ w.grownBy w' (some g) ∧ (g' = g ∨ w.heap.size ≤ g') ∧ g' < w'.heap.size ∧
      ∀ j, j < n * size → w'.cell? ⟨g, j, none⟩ = w.cell? ⟨g, j, none⟩ := by
  have hgl : g < w.heap.size := (hown.lt g rfl).2
  by_cases hroom : n + m ≤ cap
  · obtain ⟨w', hr, h2, h3⟩ := run_append_fits (P := P) w base t ty e i size ht hi hsize g n cap xs hown ad m c news hl hnews h1 hroom
    refine ⟨g, cap, w', hr, h2, h3, Or.inl rfl, (h2.lt g rfl).2, fun j hj => ?_⟩
    have hx : j < xs.length := by rw [hown.1]; exact hj
    rw [h2.cellAt j (by rw [Nat.add_mul]; omega), hown.cellAt j hj, List.getElem?_append_left hx]
  · have holds : ∀ j u, xs[j]? = some u → w.cell? ((⟨g, 0, none⟩ : Addr).add j) = some u := hown.cells (g := g) rfl
    obtain ⟨v', w', hr, h2, h3⟩ := run_append_arg_grows (P := P) w t ty e i z size bytes ht hi hz hsize hby hzs hsz ⟨g, 0, none⟩ n cap xs hown.1 holds ad m c news hl hnews (by omega) h63 hbytes
    obtain ⟨g', cap', rfl, hb, hlt⟩ := h2.form (by omega)
    exact ⟨g', cap', w', hr, owns_base h2 hbase, ⟨h3.os, h3.tape, h3.output, h3.size, fun k hk _ => h3.block k hk (by simp)⟩, Or.inr hb, hlt, fun j _ => World.cell?_of_block (w := w) (h3.block g hgl (by simp))⟩

theorem step_append_keeps {P : Program} (w : World) {ops : Array Oper} {o : Oper} {a : Act} {K : Act → World → Prop} {Q : Exit → Act → World → Prop} {E : Prop} (hgd : o.guard = none) (s x : Operand) (t : TypeId)
    (ho : o.op = .call { callee := .builtin .append, args := #[s, x], argTypes := #[t, t] })
    (base : Nat) (e : TypeId) (i : TypeInfo) (z : Value) (size bytes : Nat) (ht : P.underlying t = some (.slice e)) (hi : P.info? e = some i) (hz : i.zero = some z)
    (hsize : i.size = size) (hby : i.bytes = bytes) (hzs : z.cells.size = size) (hsz : 0 < size)
    (g n cap : Nat) (xs : List Value) (hs : a.eval s = .slice (some ⟨g, 0, none⟩) n cap) (hown : w.ownsRow base e size (.slice (some ⟨g, 0, none⟩) n cap) n xs)
    (ad : Addr) (m c : Nat) (news : List Value) (hx : a.eval x = .slice (some ad) m c) (hl : news.length = m * size) (hnews : ∀ j u, news[j]? = some u → w.cell? (ad.add j) = some u) (h1 : ∀ u ∈ news, u.oneCell' = true)
    (hm : 0 < m) (h63 : n + m ≤ maxLen) (hbytes : (n + m) * bytes ≤ 140737488355328) (hbase : base ≤ w.heap.size)
    (h : ∀ g' cap' w', w'.ownsRow base e size (.slice (some ⟨g', 0, none⟩) (n + m) cap') (n + m) (xs ++ news) → w.grownBy w' (some g) → (g' = g ∨ w.heap.size ≤ g') → g' < w'.heap.size →
      (∀ j, j < n * size → w'.cell? ⟨g, j, none⟩ = w.cell? ⟨g, j, none⟩) → K (a.put o.dst (.slice (some ⟨g', 0, none⟩) (n + m) cap')) w') :
    if Region.wanted o (yielded ops a.tmps) = true then Oper.wp P o a w K Q else E := by
  have hw : Region.wanted o (yielded ops a.tmps) = true := by simp [Region.wanted, hgd]
  rw [if_pos hw]
  obtain ⟨g', cap', w', hr, h2, h3, h4, h5, h6⟩ := run_append_keeps (P := P) w t o.type base e i z size bytes ht hi hz hsize hby hzs hsz g n cap xs hown ad m c news hl hnews h1 hm h63 hbytes hbase
  unfold Oper.wp execOp
  simp only [ho, resolve, invoke, builtin, Sem.run_bind, Sem.run_pure, Result.andThen_ok, List.map_toArray, List.map_cons, List.map_nil, hs, hx, hr]
  exact h g' cap' w' h2 h3 h4 h5 h6
end Go.Proofs.Qxb6600921a
