/-
  binaryDiagram: the small functions, and 'node' on the ways on which nothing is put in.
-/
import Derived.Test.Qxb6600921aTab3
import Derived.Test.Qxb6600921aCo
import Derived.Deep.AppendLies
import Derived.Deep.RegionHeld3
import Derived.Deep.RegionLaw
import Derived.Deep.DeepCutAuto
namespace Go.Proofs.Qxb6600921a
open Go.RowKit
set_option linter.unusedVariables false

theorem part0 (a b c : Int) (w : World) : (part 21 #[.int .i32 a, .int .i32 b, .int .i32 c] 0).run Try.prog w = .ok (.int .i32 a) w := by kernel_rfl
theorem part1 (a b c : Int) (w : World) : (part 21 #[.int .i32 a, .int .i32 b, .int .i32 c] 1).run Try.prog w = .ok (.int .i32 b) w := by kernel_rfl
theorem part2 (a b c : Int) (w : World) : (part 21 #[.int .i32 a, .int .i32 b, .int .i32 c] 2).run Try.prog w = .ok (.int .i32 c) w := by kernel_rfl
theorem eqIn31 (a b c x y z : Int) (w : World) : (Op.equalIn 10000 31 (.agg #[.int .i32 a, .int .i32 b, .int .i32 c]) (.agg #[.int .i32 x, .int .i32 y, .int .i32 z])).run Try.prog w = .ok (a == x && (b == y && c == z)) w := by
  have e21 := fun (p q : Int) => run_equalIn_int (P := Try.prog) w 9998 21 .i32 .i32 p q Try.underlying21
  have u31 := run_underlying (w := w) Try.underlying31
  rw [show (10000 : Nat) = 9999 + 1 from rfl, Op.equalIn]
  simp [u31]
  have hr : List.range' 0 3 = [0, 1, 2] := rfl
  have e21' : ∀ p q : Int, Sem.run Try.prog (Op.equalIn 9999 21 (Value.int IntKind.i32 p) (Value.int IntKind.i32 q)) w = Result.ok (p == q) w := e21
  rw [hr]
  cases h1 : (a == x)
  · simp [List.forIn_cons, part0, e21', h1]
  · cases h2 : (b == y)
    · simp [List.forIn_cons, part0, part1, e21', h1, h2]
    · cases h3 : (c == z) <;> simp [List.forIn_cons, part0, part1, part2, e21', h1, h2, h3]
theorem eql31 (a b c x y z : Int) (w : World) : (binOp .eql 31 (.agg #[.int .i32 a, .int .i32 b, .int .i32 c]) (.agg #[.int .i32 x, .int .i32 y, .int .i32 z])).run Try.prog w = .ok (.bool (a == x && (b == y && c == z))) w := by
  rw [run_eql_struct, eqIn31]; rfl
theorem neq31 (a b c x y z : Int) (w : World) : (binOp .neq 31 (.agg #[.int .i32 a, .int .i32 b, .int .i32 c]) (.agg #[.int .i32 x, .int .i32 y, .int .i32 z])).run Try.prog w = .ok (.bool (!(a == x && (b == y && c == z)))) w := by
  rw [run_neq_struct, eqIn31]; rfl

/-- The hash of a node's three numbers. -/
def bh3 (v l h : Int) : Int := hs (bits .xor .u64 (hs (bits .or .u64 (v % 4294967296 * 4294967296) l)) h)
def bh (k : Tab.K3) : Int := bh3 k.1 k.2.1 k.2.2
theorem hs_eq (p q : Int) (h : q = IntKind.u64.wrap (p * 11400714819323198485)) : bits .xor .u64 q (q / 4294967296) = hs p := by
  unfold hs; rw [h]
theorem bh_eq (v l h x y z : Int) (hx : x = IntKind.u64.wrap (bits .or .u64 (v % 4294967296 * 4294967296) l * 11400714819323198485)) (hy : y = bits .xor .u64 (bits .xor .u64 x (x / 4294967296)) h) (hz : z = IntKind.u64.wrap (y * 11400714819323198485)) :
    bits .xor .u64 z (z / 4294967296) = bh3 v l h := by
  unfold bh3
  rw [hs_eq y z hz, hy, hs_eq _ x hx]
def bN (k : Tab.K3) : Nat := (bh k).toNat
theorem bh_bd (k : Tab.K3) : 0 ≤ bh k ∧ bh k ≤ 18446744073709551615 := hs_bd _
theorem bmask0 (p m : Nat) (hp : 2 ^ p = m) (hp2 : p ≤ 20) (x : Tab.K3) : bits .and .u64 (bh x) ((m : Int) - 1) = (((bN x + 0) % m : Nat) : Int) := by
  subst hp
  rw [and_mask (bh x) p (by omega) (bh_bd x).1 (bh_bd x).2, Nat.add_zero, bN]

set_option maxHeartbeats 400000 in
theorem bhash_any (v l h : Int) (w : World) (hv : -2147483648 ≤ v ∧ v ≤ 2147483647) (hl : 0 ≤ l ∧ l ≤ 2147483647) (hh : 0 ≤ h ∧ h ≤ 2147483647) :
    Calls Try.prog 39 #[.agg #[.int .i32 v, .int .i32 l, .int .i32 h]] w fun e w' => e = .returned (.int .u64 (bh (v, l, h))) ∧ w.alloc (.cells #[.int .i32 v, .int .i32 l, .int .i32 h] 31) = w' := by
  obtain ⟨hv1, hv2⟩ := hv
  obtain ⟨hl1, hl2⟩ := hl
  obtain ⟨hh1, hh2⟩ := hh
  have HQ : Hid (∀ x y z : Int, x = IntKind.u64.wrap (bits .or .u64 (v % 4294967296 * 4294967296) l * 11400714819323198485) → y = bits .xor .u64 (bits .xor .u64 x (x / 4294967296)) h → z = IntKind.u64.wrap (y * 11400714819323198485) → Ending.returned (.int .u64 (bits .xor .u64 z (z / 4294967296))) = .returned (.int .u64 (bh (v, l, h)))) := by
    intro x y z hx hy hz
    rw [bh_eq v l h x y z hx hy hz]; rfl
  go_enter Try.func39, Try.ntmps39
  go_wp2
  go_ret
  exact ⟨HQ.out _ _ _ rfl rfl rfl, rfl⟩

/-- A diagram: its block; the rows of its nodes, of its table, of its depths. -/
structure DG (w : World) (base D gN gU gD cN cD : Nat) (ns : List Tab.K3) (us dp : List Int) : Prop where
  d : Blk w D [.slice (some ⟨gN, 0, none⟩) ns.length cN, .slice (some ⟨gU, 0, none⟩) us.length us.length, .slice (some ⟨gD, 0, none⟩) ns.length cD] 52
  n : w.ownsRow base 31 3 (.slice (some ⟨gN, 0, none⟩) ns.length cN) ns.length (Tab.tcells ns)
  u : Ints w gU .i32 21 us
  p : w.ownsRow base 21 1 (.slice (some ⟨gD, 0, none⟩) ns.length cD) ns.length (dp.map (Value.int .i32))
  pl : dp.length = ns.length

theorem DG.upto {P : Nat → Prop} {w w' : World} {base D gN gU gD cN cD : Nat} {ns : List Tab.K3} {us dp : List Int} (h : DG w base D gN gU gD cN cD ns us dp) (hu : Upto P w w') (h1 : ¬ P D) (h2 : ¬ P gN) (h3 : ¬ P gU) (h4 : ¬ P gD) : DG w' base D gN gU gD cN cD ns us dp :=
  ⟨hu.blk h.d h1, hu.owns h.n h2, hu.ints h.u h3, hu.owns h.p h4, h.pl⟩
theorem DG.c0 {w : World} {base D gN gU gD cN cD : Nat} {ns : List Tab.K3} {us dp : List Int} (h : DG w base D gN gU gD cN cD ns us dp) {i : Nat} (hi : i < ns.length) : w.cell? ⟨gN, i * 3, none⟩ = some (.int .i32 (Tab.nat3 ns i).1) := by
  rw [h.n.cellAt _ (by omega), Tab.tcells_at0 ns i hi]
theorem DG.c1 {w : World} {base D gN gU gD cN cD : Nat} {ns : List Tab.K3} {us dp : List Int} (h : DG w base D gN gU gD cN cD ns us dp) {i : Nat} (hi : i < ns.length) : w.cell? ⟨gN, i * 3 + 1, none⟩ = some (.int .i32 (Tab.nat3 ns i).2.1) := by
  rw [h.n.cellAt _ (by omega), Tab.tcells_at1 ns i hi]
theorem DG.c2 {w : World} {base D gN gU gD cN cD : Nat} {ns : List Tab.K3} {us dp : List Int} (h : DG w base D gN gU gD cN cD ns us dp) {i : Nat} (hi : i < ns.length) : w.cell? ⟨gN, i * 3 + 2, none⟩ = some (.int .i32 (Tab.nat3 ns i).2.2) := by
  rw [h.n.cellAt _ (by omega), Tab.tcells_at2 ns i hi]
theorem DG.dep {w : World} {base D gN gU gD cN cD : Nat} {ns : List Tab.K3} {us dp : List Int} (h : DG w base D gN gU gD cN cD ns us dp) {i : Nat} (hi : i < ns.length) : w.cell? ⟨gD, i, none⟩ = some (.int .i32 (dp.getD i 0)) := by
  have hi' : i < dp.length := by rw [h.pl]; exact hi
  rw [h.p.cellAt _ (by omega), List.getElem?_map, List.getD_eq_getElem?_getD, List.getElem?_eq_getElem hi']; rfl
theorem DG.lt {w : World} {base D gN gU gD cN cD : Nat} {ns : List Tab.K3} {us dp : List Int} (h : DG w base D gN gU gD cN cD ns us dp) : D < w.heap.size ∧ gN < w.heap.size ∧ gU < w.heap.size ∧ gD < w.heap.size :=
  ⟨h.d.lt, (h.n.lt gN rfl).2, Blk.lt h.u, (h.p.lt gD rfl).2⟩

set_option maxRecDepth 100000 in
set_option maxHeartbeats 400000 in
theorem node_same (D : Nat) (v l : Int) (w : World) :
    Calls Try.prog 35 #[.pointer (some ⟨D, 0, none⟩), .int .i32 v, .int .i32 l, .int .i32 l] w fun e w' => e = .returned (.int .i32 l) ∧ w = w' := by
  have hh : (l == l) = true := beq_self_eq_true _
  go_enter Try.func35, Try.ntmps35
  go_wp2
  go_ret
  exact ⟨rfl, rfl⟩

theorem ne3 {a b c x y z : Int} (h : (a, b, c) ≠ (x, y, z)) : (a == x && (b == y && c == z)) = false := by
  rw [Bool.eq_false_iff]
  intro e
  simp at e
  exact h (by rw [e.1, e.2.1, e.2.2])

set_option maxRecDepth 100000 in
set_option maxHeartbeats 1000000 in
theorem node_hit (base D gN gU gD cN cD p d m id : Nat) (ns : List Tab.K3) (us dp : List Int) (v l h : Int) (w : World)
    (hv : -2147483648 ≤ v ∧ v ≤ 2147483647) (hl : 0 ≤ l ∧ l ≤ 2147483647) (hh : 0 ≤ h ∧ h ≤ 2147483647) (hlh : l ≠ h)
    (hp : 2 ^ p = m) (hp2 : p ≤ 20) (hm : m ≤ 1048576) (hlen : us.length = m) (hns : ns.length ≤ 10000)
    (hG : DG w base D gN gU gD cN cD ns us dp) (hD : D ≠ gN ∧ D ≠ gU)
    (hid2 : 2 ≤ id) (hidn : id < ns.length) (hk : Tab.nat3 ns id = (v, l, h))
    (hd : d < m) (h0 : us.getD ((bN (v, l, h) + d) % m) 0 = (id : Int))
    (hw : ∀ e, e < d → us.getD ((bN (v, l, h) + e) % m) 0 ≠ 0 ∧ Tab.nat3 ns (us.getD ((bN (v, l, h) + e) % m) 0).toNat ≠ (v, l, h))
    (hb : ∀ x ∈ us, 0 ≤ x ∧ x < ns.length) :
    Calls Try.prog 35 #[.pointer (some ⟨D, 0, none⟩), .int .i32 v, .int .i32 l, .int .i32 h] w fun e w' => e = .returned (.int .i32 id) ∧ Upto (fun _ => False) w w' := by
  have HP : Hid (2 ^ p = m) := hp
  have HL : Hid (us.length = m) := hlen
  have HG : Hid (DG w base D gN gU gD cN cD ns us dp) := hG
  have HW : Hid (∀ e, e < d → us.getD ((bN (v, l, h) + e) % m) 0 ≠ 0 ∧ Tab.nat3 ns (us.getD ((bN (v, l, h) + e) % m) 0).toNat ≠ (v, l, h)) := hw
  have H0 : Hid (us.getD ((bN (v, l, h) + d) % m) 0 = (id : Int)) := h0
  have HB : Hid (∀ x ∈ us, 0 ≤ x ∧ x < ns.length) := hb
  have HK : Hid (Tab.nat3 ns id = (v, l, h)) := hk
  have hm1 : 1 ≤ m := by omega
  have hlh' : (l == h) = false := by simpa using hlh
  have d1 : w.cell? ⟨D, 1, none⟩ = some (.slice (some ⟨gU, 0, none⟩) us.length us.length) := hG.d.cell rfl
  obtain ⟨l1, l2, l3, l4⟩ := hG.lt
  rw [hlen] at d1
  clear hp hlen hG hw h0 hb hk hlh
  have heq := eql31
  obtain ⟨n, hn⟩ : ∃ n, n = ns.length := ⟨_, rfl⟩
  rw [← hn] at hns hidn
  have HNn : Hid (n = ns.length) := hn
  clear hn
  go_enter Try.func35, Try.ntmps35
  go_wp2_with (go_at_call 39; refine (bhash_any _ _ _ _ hv hl hh).mono ?_; rintro e w' ⟨rfl, rfl⟩)
  go_loopw [11] (fun k wr => ∃ e j : Nat, e ≤ d ∧ j < m ∧ Hid (j = (bN (v, l, h) + e) % m) ∧ k = .int .u64 j ∧ Hid (Upto (fun _ => False) ((w.alloc (.cells #[.int .i32 v, .int .i32 l, .int .i32 h] 31)).alloc (.cells #[.int .i32 v, .int .i32 l, .int .i32 h] 31)) wr)) (fun k _ => gap m ((bN (v, l, h) + d) % m) (intOf k).toNat)
  case atStart => exact ⟨0, _, Nat.zero_le _, Nat.mod_lt _ hm1, rfl, by rw [bmask0 p m HP.out hp2], Upto.refl _ _⟩
  case round =>
    obtain ⟨e, j, he, hj, HJ, rfl, HU⟩ := hrel
    have HG' : Hid (DG wr base D gN gU gD cN cD ns us dp) := HG.out.upto (((Upto.refl (fun _ => False) w).alloc _).alloc _ |>.trans HU.out) (fun h => h) (fun h => h) (fun h => h) (fun h => h)
    have HKB : Hid (Blk wr w.heap.size [.int .i32 v, .int .i32 l, .int .i32 h] 31) := HU.out.blk ((Blk.new w [.int .i32 v, .int .i32 l, .int .i32 h] 31).alloc _) (fun h => h)
    have e1 : wr.cell? ⟨D, 1, none⟩ = some (.slice (some ⟨gU, 0, none⟩) m m) := by have : wr.cell? ⟨D, 1, none⟩ = some (.slice (some ⟨gU, 0, none⟩) us.length us.length) := HG'.out.d.cell rfl; rw [HL.out] at this; exact this
    have e0 : wr.cell? ⟨D, 0, none⟩ = some (.slice (some ⟨gN, 0, none⟩) n cN) := by have : wr.cell? ⟨D, 0, none⟩ = some (.slice (some ⟨gN, 0, none⟩) ns.length cN) := HG'.out.d.cell rfl; rw [← HNn.out] at this; exact this
    have k0 : wr.cell? ⟨w.heap.size, 0, none⟩ = some (.int .i32 v) := HKB.out.cell rfl
    have k1 : wr.cell? ⟨w.heap.size, 1, none⟩ = some (.int .i32 l) := HKB.out.cell rfl
    have k2 : wr.cell? ⟨w.heap.size, 2, none⟩ = some (.int .i32 h) := HKB.out.cell rfl
    have cj := HG'.out.u.cell (i := j) (by rw [HL.out]; exact hj)
    by_cases hlt : e < d
    · have hv2 := HW.out e hlt
      rw [← HJ.out] at hv2
      obtain ⟨x, hx⟩ : ∃ x : Nat, us.getD j 0 = (x : Int) := by
        have := HB.out _ (Tab.mem_of_getD (sl := us) (i := j) (by rw [HL.out]; exact hj))
        exact ⟨(us.getD j 0).toNat, by omega⟩
      have hxn : x < n := by
        have := HB.out _ (Tab.mem_of_getD (sl := us) (i := j) (by rw [HL.out]; exact hj))
        rw [hx] at this; have := HNn.out; omega
      rw [hx, Int.toNat_natCast] at hv2
      rw [hx] at cj
      have c0 := HG'.out.c0 (i := x) (by rw [← HNn.out]; exact hxn)
      have c1 := HG'.out.c1 (i := x) (by rw [← HNn.out]; exact hxn)
      have c2 := HG'.out.c2 (i := x) (by rw [← HNn.out]; exact hxn)
      generalize Tab.nat3 ns x = y at c0 c1 c2 hv2
      obtain ⟨y0, y1, y2⟩ := y
      dsimp only at c0 c1 c2
      have hne := ne3 hv2.2
      have hx0 : ((x : Int) != 0) = true := by simpa using hv2.1
      have hx1 : (0 : Int) ≤ (x : Int) := by omega
      have hx2 : (x : Int) < (n : Int) := by omega
      clear hv2 hx
      go_wp2
      go_quiet (fail)
      go_wp2
      go_roundw
      case rel => exact ⟨e + 1, _, by omega, Nat.mod_lt _ hm1, rfl, by rw [← mask1 p m HP.out hp2, ← HJ.out], HU.out.drewN _⟩
      case measure =>
        simp only [intOf]
        rw [HJ.out, mask1 p m HP.out hp2, Int.toNat_natCast, Int.toNat_natCast, gap_eq _ _ _ _ hlt hd, gap_eq _ _ _ _ he hd]
        omega
    · have hv2 := H0.out
      have ed : e = d := by omega
      rw [← ed, ← HJ.out] at hv2
      rw [hv2] at cj
      have c0 := HG'.out.c0 (i := id) (by rw [← HNn.out]; exact hidn)
      have c1 := HG'.out.c1 (i := id) (by rw [← HNn.out]; exact hidn)
      have c2 := HG'.out.c2 (i := id) (by rw [← HNn.out]; exact hidn)
      rw [HK.out] at c0 c1 c2
      dsimp only at c0 c1 c2
      have hx0 : ((id : Int) != 0) = true := by simp; omega
      have hx1 : (0 : Int) ≤ (id : Int) := by omega
      have hx2 : (id : Int) < (n : Int) := by omega
      have hee : (v == v && (l == l && h == h)) = true := by simp
      clear ed hv2
      go_wp2
      go_quiet (fail)
      go_wp2
      go_ret
      exact ⟨rfl, (((Upto.refl (fun _ => False) w).alloc _).alloc _ |>.trans HU.out).drewN _⟩
end Go.Proofs.Qxb6600921a
