/-
  FnNodeMatchesLinearModel: the walk of the law.
-/
import Derived.Test.Qxb6600921aNp
import Derived.Test.Qxb6600921aSm
import Derived.Test.Qxb6600921aNw
import Derived.Test.Qxb6600921aSrc
namespace Go.Proofs.Qxb6600921a
open Go.RowKit
set_option linter.unusedVariables false

/-- What zzPickNode picks. -/
def pickN (x n : Int) : Nat := (x % 4294967296 % n).toNat
theorem pickN_lt (x : Int) (n : Nat) (h : 2 ≤ n) : pickN x n < n := by
  have h1 : 0 ≤ x % 4294967296 % n := Int.emod_nonneg _ (by omega)
  have h2 : x % 4294967296 % n < n := Int.emod_lt_of_pos _ (by omega)
  unfold pickN
  omega
theorem pick_at (x : Int) (n y : Nat) (w : World) (hy : Hid (pickN x n = y)) (hx : -2147483648 ≤ x ∧ x ≤ 2147483647) (hn : 2 ≤ n ∧ n ≤ 5000) :
    Calls Try.prog 13 #[.int .i32 x, .int .i32 n] w fun e w' => e = .returned (.int .i32 y) ∧ w = w' := by
  obtain ⟨hn1, hn2⟩ := hn
  have h1 : 0 ≤ x % 4294967296 % n := Int.emod_nonneg _ (by omega)
  have h2 : x % 4294967296 % n < n := Int.emod_lt_of_pos _ (by omega)
  have HE : Hid (x % 4294967296 % n = (y : Int)) := by
    show x % 4294967296 % n = (y : Int)
    have := hy.out
    unfold pickN at this
    omega
  clear hy
  go_enter Try.func13, Try.ntmps13
  go_wp2
  go_ret
  exact ⟨ret_int HE.out, rfl⟩

/-- Memory at each step: the three rows, the model's keys, the diagram. -/
structure LN (w wr : World) (B g1 g2 g3 D gK N : Nat) (z1 z2 z3 : List Int) (ns : List Tab.K3) (gN gU gD cN cD p : Nat) (us dp : List Int) : Prop where
  up : Upto (fun k => B ≤ k) w wr
  r1 : Ints wr g1 .i32 21 z1
  r2 : Ints wr g2 .i32 21 z2
  r3 : Ints wr g3 .i32 21 z3
  k : wr.ownsRow B 31 3 (.slice (some ⟨gK, 0, none⟩) ns.length (N + 2)) ns.length (Tab.tcells ns)
  dg : DG wr B D gN gU gD cN cD ns us dp
  ne : D ≠ gN ∧ D ≠ gU ∧ D ≠ gD ∧ gN ≠ gU ∧ gN ≠ gD ∧ gU ≠ gD
  nk : gK ≠ D ∧ gK ≠ gN ∧ gK ≠ gU ∧ gK ≠ gD
  lo : g1 < B ∧ g2 < B ∧ g3 < B ∧ B ≤ D ∧ B ≤ gN ∧ B ≤ gU ∧ B ≤ gD ∧ B ≤ gK
  ok : Tab.Ok3 bN ns us ns.length
  pw : 2 ^ p = us.length
  half : 2 * ns.length ≤ us.length
  big : us.length ≤ 4 * ns.length
  e8 : 8 ≤ us.length
  rg : ∀ id, 2 ≤ id → id < ns.length → -2147483648 ≤ (Tab.nat3 ns id).1 ∧ (Tab.nat3 ns id).1 ≤ 2147483647 ∧ 0 ≤ (Tab.nat3 ns id).2.1 ∧ (Tab.nat3 ns id).2.1 ≤ 2147483647 ∧ 0 ≤ (Tab.nat3 ns id).2.2 ∧ (Tab.nat3 ns id).2.2 ≤ 2147483647

section
variable {w wr wr' : World} {B g1 g2 g3 D gK N : Nat} {z1 z2 z3 : List Int} {ns : List Tab.K3} {gN gU gD cN cD p : Nat} {us dp : List Int}
theorem LN.quiet (h : LN w wr B g1 g2 g3 D gK N z1 z2 z3 ns gN gU gD cN cD p us dp) (hu : Upto (fun _ => False) wr wr') : LN w wr' B g1 g2 g3 D gK N z1 z2 z3 ns gN gU gD cN cD p us dp :=
  ⟨h.up.trans (hu.mono (fun k _ e => e.elim)), hu.ints h.r1 id, hu.ints h.r2 id, hu.ints h.r3 id, hu.owns h.k id, h.dg.upto hu id id id id, h.ne, h.nk, h.lo, h.ok, h.pw, h.half, h.big, h.e8, h.rg⟩

theorem LN.new {w5 w6 : World} {v : Int} {l r : Nat} (h : LN w wr B g1 g2 g3 D gK N z1 z2 z3 ns gN gU gD cN cD p us dp) (hv : -2147483648 ≤ v ∧ v ≤ 2147483647) (hl : l < ns.length) (hr : r < ns.length) (hn : ns.length ≤ 10000)
    (hu : Upto (fun k => k = gK) wr w5) (ho : w5.ownsRow B 31 3 (.slice (some ⟨gK, 0, none⟩) (ns.length + 1) (N + 2)) (ns.length + 1) (Tab.tcells ns ++ [.int .i32 v, .int .i32 l, .int .i32 r]))
    (hc : NewNode w5 w6 B D gN gU gD (ns ++ [(v, (l : Int), (r : Int))])) :
    ∃ gN' gU' gD' cN' cD' p' us' dp', LN w w6 B g1 g2 g3 D gK N z1 z2 z3 (ns ++ [(v, (l : Int), (r : Int))]) gN' gU' gD' cN' cD' p' us' dp' := by
  obtain ⟨gN', gU', gD', cN', cD', p', us', dp', c1, c2, c3, c4, c5, c6, c7, c8, c9, c10, c11⟩ := hc
  obtain ⟨a1, a2, a3, a4, a5, a6, a7, a8⟩ := h.lo
  obtain ⟨k1, k2, k3, k4⟩ := h.nk
  obtain ⟨l1, l2, l3, l4⟩ := h.dg.lt
  have lK := (h.k.lt gK rfl).2
  have s5 := hu.size
  refine ⟨gN', gU', gD', cN', cD', p', us', dp', ⟨?_, ?_, ?_, ?_, ?_, c1, c3, ⟨k1, by omega, by omega, by omega⟩, ⟨a1, a2, a3, a4, by have := (h.up.size); omega, by omega, by omega, a8⟩, c7, c8, c9, c10, c11, ?_⟩⟩
  · exact (h.up.trans (hu.mono (fun k _ e => by omega))).trans (c2.mono (fun k _ e => by omega))
  · exact c2.ints (hu.ints h.r1 (by omega)) (by omega)
  · exact c2.ints (hu.ints h.r2 (by omega)) (by omega)
  · exact c2.ints (hu.ints h.r3 (by omega)) (by omega)
  · rw [Tab.tcells_snoc, List.length_append, List.length_singleton]
    exact c2.owns ho (by omega)
  · intro id h2 hlt
    rw [List.length_append, List.length_singleton] at hlt
    by_cases e : id < ns.length
    · rw [Tab.nat3_app e]; exact h.rg id h2 e
    · have : id = ns.length := by omega
      rw [this, Tab.nat3_last]
      exact ⟨hv.1, hv.2, (by show (0 : Int) ≤ (l : Int); omega), (by show (l : Int) ≤ 2147483647; omega), (by show (0 : Int) ≤ (r : Int); omega), (by show (r : Int) ≤ 2147483647; omega)⟩
end

theorem find3_hit (base g c n k : Nat) (ns : List Tab.K3) (a b d : Int) (w : World) (hn : ns.length = n) (hlen : n ≤ 10000) (h2 : 2 ≤ n)
    (ho : w.ownsRow base 31 3 (.slice (some ⟨g, 0, none⟩) n c) n (Tab.tcells ns)) (inj : ∀ i j, 2 ≤ i → i < ns.length → 2 ≤ j → j < ns.length → Tab.nat3 ns i = Tab.nat3 ns j → i = j)
    (hk2 : 2 ≤ k) (hkn : k < n) (hk : Hid (Tab.nat3 ns k = (a, b, d))) :
    Calls Try.prog 14 #[.slice (some ⟨g, 0, none⟩) n c, .int .i32 a, .int .i32 b, .int .i32 d] w fun e w' => e = .returned (.int .i32 k) ∧ w = w' := by
  refine (find3_any base g c n ns a b d w hn hlen h2 ho).mono ?_
  rintro e w' ⟨⟨k', h1, h3, h4, rfl⟩ | ⟨_, h1⟩, rfl⟩
  · have := inj k' k h1 (by omega) hk2 (by omega) (h4.trans hk.out.symm)
    rw [this]; exact ⟨rfl, rfl⟩
  · exact absurd hk.out (h1 k hk2 hkn)
theorem find3_miss (base g c n : Nat) (ns : List Tab.K3) (a b d : Int) (w : World) (hn : ns.length = n) (hlen : n ≤ 10000) (h2 : 2 ≤ n)
    (ho : w.ownsRow base 31 3 (.slice (some ⟨g, 0, none⟩) n c) n (Tab.tcells ns)) (hk : Hid (∀ j, 2 ≤ j → j < n → Tab.nat3 ns j ≠ (a, b, d))) :
    Calls Try.prog 14 #[.slice (some ⟨g, 0, none⟩) n c, .int .i32 a, .int .i32 b, .int .i32 d] w fun e w' => e = .returned (.int .i32 (-1)) ∧ w = w' := by
  refine (find3_any base g c n ns a b d w hn hlen h2 ho).mono ?_
  rintro e w' ⟨⟨k', h1, h3, h4, rfl⟩ | ⟨rfl, h1⟩, rfl⟩
  · exact absurd h4 (hk.out k' h1 h3)
  · exact ⟨rfl, rfl⟩

section
variable {w wr : World} {B g1 g2 g3 D gK N : Nat} {z1 z2 z3 : List Int} {ns : List Tab.K3} {gN gU gD cN cD p : Nat} {us dp : List Int}
theorem LN.hit (h : LN w wr B g1 g2 g3 D gK N z1 z2 z3 ns gN gU gD cN cD p us dp) (hn : ns.length ≤ 10000) (v : Int) (l r id : Nat) (hv : -2147483648 ≤ v ∧ v ≤ 2147483647) (hl : l < ns.length) (hr : r < ns.length) (hlr : l ≠ r)
    (h2 : 2 ≤ id) (hid : id < ns.length) (hk : Hid (Tab.nat3 ns id = (v, (l : Int), (r : Int)))) :
    Calls Try.prog 15 #[.pointer (some ⟨D, 0, none⟩), .int .i32 v, .int .i32 l, .int .i32 r] wr fun e w' => e = .returned (.int .i32 id) ∧ Upto (fun _ => False) wr w' := by
  obtain ⟨d, hd, h0, hw⟩ := h.ok.hit id h2 hid
  rw [hk.out] at h0 hw
  have hb : ∀ x ∈ us, 0 ≤ x ∧ x < ns.length := by
    intro x hx
    by_cases hx0 : x = 0
    · subst hx0; omega
    · have : x ∈ Tab.keys us := Tab.mem_keys.2 ⟨hx, hx0⟩
      rw [h.ok.perm.mem_iff, Tab.mem_idsTo] at this
      obtain ⟨i, _, hi, rfl⟩ := this
      omega
  have hbig := h.big
  have hp16 := pow_le_16' (p := p) (by rw [h.pw]; omega)
  have h3 := zzNode_any (R := fun x w' => x = (id : Int) ∧ Upto (fun _ => False) wr w') ⟨D, 0, none⟩ v l r wr ((node_hit B D gN gU gD cN cD p d us.length id ns us dp v l r wr hv (by omega) (by omega) (by omega) h.pw (by omega) (by omega) rfl hn h.dg ⟨h.ne.1, h.ne.2.1⟩ h2 hid hk.out hd h0 hw hb).mono (fun e w' h => ⟨_, h.1, rfl, h.2⟩))
  refine h3.mono ?_
  rintro e w' ⟨x, rfl, rfl, hu⟩
  exact ⟨rfl, hu⟩
theorem LN.same (D : Nat) (v l : Int) (w : World) :
    Calls Try.prog 15 #[.pointer (some ⟨D, 0, none⟩), .int .i32 v, .int .i32 l, .int .i32 l] w fun e w' => e = .returned (.int .i32 l) ∧ w = w' := by
  have h3 := zzNode_any (R := fun x w' => x = l ∧ w = w') ⟨D, 0, none⟩ v l l w ((node_same D v l w).mono (fun e w' h => ⟨_, h.1, rfl, h.2⟩))
  refine h3.mono ?_
  rintro e w' ⟨x, rfl, rfl, rfl⟩
  exact ⟨rfl, rfl⟩
theorem LN.fresh {w5 : World} (h : LN w wr B g1 g2 g3 D gK N z1 z2 z3 ns gN gU gD cN cD p us dp) (hn : ns.length ≤ 10000) (v : Int) (l r : Nat) (hv : -2147483648 ≤ v ∧ v ≤ 2147483647) (hl : l < ns.length) (hr : r < ns.length) (hlr : l ≠ r)
    (n : Nat) (hnn : Hid (n = ns.length)) (hk : Hid (∀ j, 2 ≤ j → j < n → Tab.nat3 ns j ≠ (v, (l : Int), (r : Int)))) (hu : Upto (fun k => k = gK) wr w5) :
    Calls Try.prog 15 #[.pointer (some ⟨D, 0, none⟩), .int .i32 v, .int .i32 l, .int .i32 r] w5 fun e w' => e = .returned (.int .i32 n) ∧ NewNode w5 w' B D gN gU gD (ns ++ [(v, (l : Int), (r : Int))]) := by
  obtain rfl : n = ns.length := hnn.out
  obtain ⟨k1, k2, k3, k4⟩ := h.nk
  have hG := h.dg.upto hu (by omega) (by omega) (by omega) (by omega)
  have h3 := zzNode_any (R := fun x w' => x = (ns.length : Int) ∧ NewNode w5 w' B D gN gU gD (ns ++ [(v, (l : Int), (r : Int))])) ⟨D, 0, none⟩ v l r w5 ((node_new B D gN gU gD cN cD p us.length ns us dp v l r w5 hv hl hr hlr h.pw rfl hn h.big h.e8 hG h.ne h.lo.2.2.2.1 h.ok hk.out h.half h.rg).mono (fun e w' h => ⟨_, h.1, rfl, h.2⟩))
  refine h3.mono ?_
  rintro e w' ⟨x, rfl, rfl, hc⟩
  exact ⟨rfl, hc⟩
end

theorem made_take (n : Nat) : (madeCells #[Value.int IntKind.i32 0, Value.int IntKind.i32 0, Value.int IntKind.i32 0] ((n + 2) * 3)).toList.take (2 * 3) = Tab.tcells ns0 := by
  have e : (madeCells #[Value.int IntKind.i32 0, Value.int IntKind.i32 0, Value.int IntKind.i32 0] ((n + 2) * 3)).toList = (List.range ((n + 2) * 3)).map (fun i => #[Value.int IntKind.i32 0, Value.int IntKind.i32 0, Value.int IntKind.i32 0][i % 3]!) := by
    unfold madeCells; simp
  rw [e, ← List.map_take, List.take_range, Nat.min_eq_left (by omega)]
  rfl
theorem keys0 (w : World) (B N : Nat) (hB : B ≤ w.heap.size) (hN : N ≤ 4096) : (w.alloc (.cells (madeCells #[Value.int IntKind.i32 0, Value.int IntKind.i32 0, Value.int IntKind.i32 0] ((N + 2) * 3)) 31)).ownsRow B 31 3 (.slice (some ⟨w.heap.size, 0, none⟩) ns0.length (N + 2)) ns0.length (Tab.tcells ns0) :=
  ⟨rfl, .inr ⟨w.heap.size, N + 2, _, rfl, hB, heap_alloc_new w _, (by show 2 ≤ N + 2; omega), by unfold maxLen; omega, size_madeCells _ _, made_take N⟩⟩

set_option maxRecDepth 100000 in
/-- The ways on which the law says true at once. -/
theorem law3_out (a1 : Option Addr) (len1 cap1 : Nat) (a2 : Option Addr) (len2 cap2 : Nat) (a3 : Option Addr) (len3 cap3 : Nat) (w : World) (h1 : len1 ≤ maxLen) (h2 : len2 ≤ maxLen) (h3 : len3 ≤ maxLen)
    (hout : 1048576 < len1 + len2 + len3 ∨ 1048576 < 4 * (len1 + len2 + len3) ∨ 4096 < len1 ∨ 4096 < len2 ∨ 4096 < len3) :
    Calls Try.prog 3 #[.slice a1 len1 cap1, .slice a2 len2 cap2, .slice a3 len3 cap3] w fun e w' => e = .returned (.bool true) ∧ w = w' := by
  by_cases c1 : len1 + len2 + len3 ≤ 1048576
  · have hb : Hid (decide (len1 + len2 + len3 ≤ 1048576) = true) := decide_eq_true c1
    by_cases c2 : 1048576 < 4 * (len1 + len2 + len3)
    · go_enter Try.func3, Try.ntmps3
      go_wp2_with (go_at_call 9; refine (bytes9 _ _ _ _ _ _ _ _ _ _ h1 h2 h3 true hb).mono ?_; rintro e w' ⟨rfl, rfl⟩)
      go_ret
      exact ⟨rfl, rfl⟩
    · by_cases c3 : 4096 < len1
      · go_enter Try.func3, Try.ntmps3
        go_wp2_with (go_at_call 9; refine (bytes9 _ _ _ _ _ _ _ _ _ _ h1 h2 h3 true hb).mono ?_; rintro e w' ⟨rfl, rfl⟩)
        go_ret
        exact ⟨rfl, rfl⟩
      · by_cases c4 : 4096 < len2
        · clear hout
          go_enter Try.func3, Try.ntmps3
          go_wp2_with (go_at_call 9; refine (bytes9 _ _ _ _ _ _ _ _ _ _ h1 h2 h3 true hb).mono ?_; rintro e w' ⟨rfl, rfl⟩)
          go_ret
          exact ⟨rfl, rfl⟩
        · have c5 : 4096 < len3 := by omega
          clear hout
          go_enter Try.func3, Try.ntmps3
          go_wp2_with (go_at_call 9; refine (bytes9 _ _ _ _ _ _ _ _ _ _ h1 h2 h3 true hb).mono ?_; rintro e w' ⟨rfl, rfl⟩)
          go_ret
          exact ⟨rfl, rfl⟩
  · have hb : Hid (decide (len1 + len2 + len3 ≤ 1048576) = false) := decide_eq_false c1
    go_enter Try.func3, Try.ntmps3
    go_wp2_with (go_at_call 9; refine (bytes9 _ _ _ _ _ _ _ _ _ _ h1 h2 h3 false hb).mono ?_; rintro e w' ⟨rfl, rfl⟩)
    go_ret
    exact ⟨rfl, rfl⟩

theorem make28_N (N : Nat) (hN : N ≤ 4096) (w : World) : (Instr.makeSlice 28 (.int .i64 2) (.int .i64 ((N : Int) + 2))).run Try.prog w = .ok (.slice (some ⟨w.heap.size, 0, none⟩) 2 (N + 2)) (w.alloc (.cells (madeCells #[.int .i32 0, .int .i32 0, .int .i32 0] ((N + 2) * 3)) 31)) := by
  have := make28 2 (N + 2) (by omega) (by omega) w
  rw [show ((N + 2 : Nat) : Int) = (N : Int) + 2 from by omega] at this
  exact this

set_option maxRecDepth 100000 in
set_option maxHeartbeats 20000000 in
theorem law3_main (b1 o1 len1 cap1 : Nat) (z1 : List Int) (b2 o2 len2 cap2 : Nat) (z2 : List Int) (b3 o3 len3 cap3 : Nat) (z3 : List Int) (w : World) (h1 : len1 ≤ 4096) (h2 : len2 ≤ 4096) (h3 : len3 ≤ 4096)
    (hl1 : len1 ≤ z1.length) (hl2 : len2 ≤ z2.length) (hl3 : len3 ≤ z3.length)
    (c1 : ∀ i, i < z1.length → w.cell? ⟨b1, o1 + i, none⟩ = some (.int .i32 (z1.getD i 0)))
    (c2 : ∀ i, i < z2.length → w.cell? ⟨b2, o2 + i, none⟩ = some (.int .i32 (z2.getD i 0)))
    (c3 : ∀ i, i < z3.length → w.cell? ⟨b3, o3 + i, none⟩ = some (.int .i32 (z3.getD i 0)))
    (r1 : ∀ x ∈ z1, -2147483648 ≤ x ∧ x ≤ 2147483647) (r2 : ∀ x ∈ z2, -2147483648 ≤ x ∧ x ≤ 2147483647) (r3 : ∀ x ∈ z3, -2147483648 ≤ x ∧ x ≤ 2147483647) :
    Calls Try.prog 3 #[.slice (some ⟨b1, o1, none⟩) len1 cap1, .slice (some ⟨b2, o2, none⟩) len2 cap2, .slice (some ⟨b3, o3, none⟩) len3 cap3] w fun e w' => e = .returned (.bool true) ∧ Upto (fun k => w.heap.size ≤ k) w w' := by
  have hb : Hid (decide (len1 + len2 + len3 ≤ 1048576) = true) := decide_eq_true (by omega)
  have hm1 : len1 ≤ maxLen := by unfold maxLen; omega
  have hm2 : len2 ≤ maxLen := by unfold maxLen; omega
  have hm3 : len3 ≤ maxLen := by unfold maxLen; omega
  have C1 : Hid (∀ i, i < z1.length → w.cell? ⟨b1, o1 + i, none⟩ = some (.int .i32 (z1.getD i 0))) := c1
  have C2 : Hid (∀ i, i < z2.length → w.cell? ⟨b2, o2 + i, none⟩ = some (.int .i32 (z2.getD i 0))) := c2
  have C3 : Hid (∀ i, i < z3.length → w.cell? ⟨b3, o3 + i, none⟩ = some (.int .i32 (z3.getD i 0))) := c3
  have R1 : Hid (∀ x ∈ z1, -2147483648 ≤ x ∧ x ≤ 2147483647) := r1
  have R2 : Hid (∀ x ∈ z2, -2147483648 ≤ x ∧ x ≤ 2147483647) := r2
  have R3 : Hid (∀ x ∈ z3, -2147483648 ≤ x ∧ x ≤ 2147483647) := r3
  clear c1 c2 c3 r1 r2 r3
  go_enter Try.func3, Try.ntmps3
  go_wp2_with (first | (go_at_call 9; refine (bytes9 _ _ _ _ _ _ _ _ _ _ hm1 hm2 hm3 true hb).mono ?_; rintro e w' ⟨rfl, rfl⟩))
  refine (clone_some b1 o1 len1 cap1 z1 w hl1 (by omega) C1.out).mono ?_
  rintro e w1 ⟨rfl, u1, i1, s1⟩
  have C2' : Hid (∀ i, i < z2.length → w1.cell? ⟨b2, o2 + i, none⟩ = some (.int .i32 (z2.getD i 0))) := by
    intro i hi
    have c0 := C2.out i hi
    rw [← c0]
    exact World.cell?_of_block (w := w) (u1.block b2 (block_lt_of_cell c0) (fun h => h))
  have C3' : Hid (∀ i, i < z3.length → w1.cell? ⟨b3, o3 + i, none⟩ = some (.int .i32 (z3.getD i 0))) := by
    intro i hi
    have c0 := C3.out i hi
    rw [← c0]
    exact World.cell?_of_block (w := w) (u1.block b3 (block_lt_of_cell c0) (fun h => h))
  go_wp2_with (fail)
  refine (clone_some b2 o2 len2 cap2 z2 w1 hl2 (by omega) C2'.out).mono ?_
  rintro e w2 ⟨rfl, u2, i2, s2⟩
  have C3'' : Hid (∀ i, i < z3.length → w2.cell? ⟨b3, o3 + i, none⟩ = some (.int .i32 (z3.getD i 0))) := by
    intro i hi
    have c0 := C3'.out i hi
    rw [← c0]
    exact World.cell?_of_block (w := w1) (u2.block b3 (block_lt_of_cell c0) (fun h => h))
  go_wp2_with (fail)
  refine (clone_some b3 o3 len3 cap3 z3 w2 hl3 (by omega) C3''.out).mono ?_
  rintro e w3 ⟨rfl, u3, i3, s3⟩
  go_wp2_with (fail)
  refine (min3_any len1 len2 len3 w3 h1 h2 h3).mono ?_
  rintro e w' ⟨⟨N, rfl, hN1, hN2, hN3, _⟩, rfl⟩
  go_wp2_with (fail)
  refine (newDiagram w3).mono ?_
  rintro e w4 ⟨D, gN0, gU0, gD0, rfl, u4, dg4, ne4, lo4⟩
  have hmk0 := make28_N N (by omega)
  go_wp2_with (fail)
  obtain ⟨g1, Hg1⟩ : ∃ g, Hid (g = w.heap.size) := ⟨_, rfl⟩
  obtain ⟨g2, Hg2⟩ : ∃ g, Hid (g = w1.heap.size) := ⟨_, rfl⟩
  obtain ⟨g3, Hg3⟩ : ∃ g, Hid (g = w2.heap.size) := ⟨_, rfl⟩
  obtain ⟨B, HgB⟩ : ∃ g, Hid (g = w3.heap.size) := ⟨_, rfl⟩
  obtain ⟨gK, HgK⟩ : ∃ g, Hid (g = w4.heap.size) := ⟨_, rfl⟩
  have hwB : w.heap.size ≤ B := by have := HgB.out; omega
  rw [← Hg1.out, ← Hg2.out, ← Hg3.out, ← HgK.out]
  have HL0 : Hid (LN w (w4.alloc (.cells (madeCells #[.int .i32 0, .int .i32 0, .int .i32 0] ((N + 2) * 3)) 31)) B g1 g2 g3 D gK N (z1.take len1) (z2.take len2) (z3.take len3) ns0 gN0 gU0 gD0 2 2 3 (List.replicate 8 0) [0, 0]) := by
    have e1 := Hg1.out; have e2 := Hg2.out; have e3 := Hg3.out; have e4 := HgB.out; have e5 := HgK.out
    have m0 : ∀ {a b : World}, Upto (fun _ => False) a b → Upto (fun k => B ≤ k) a b := fun h => h.mono (fun k _ h => absurd h (fun h => h))
    have ua : Upto (fun _ => False) w4 (w4.alloc (.cells (madeCells #[.int .i32 0, .int .i32 0, .int .i32 0] ((N + 2) * 3)) 31)) := (Upto.refl _ _).alloc _
    obtain ⟨d1, d2, d3, d4⟩ := dg4.lt
    have k0 := keys0 w4 B N (by have := u4.size; omega) (by omega)
    rw [← e1] at i1
    rw [← e2] at i2
    rw [← e3] at i3
    rw [← e4] at dg4 lo4
    rw [← e5] at k0
    refine ⟨((((m0 u1).trans (m0 u2)).trans (m0 u3)).trans (m0 u4)).trans (m0 ua), ?_, ?_, ?_, k0, dg4.upto ua id id id id, ne4, ⟨by omega, by omega, by omega, by omega⟩, ⟨by omega, by omega, by omega, lo4.1, lo4.2.1, lo4.2.2.1, lo4.2.2.2, by have := u4.size; omega⟩, ?_, rfl, by decide, by decide, by decide, ?_⟩
    · exact ua.ints (u4.ints (u3.ints (u2.ints i1 id) id) id) id
    · exact ua.ints (u4.ints (u3.ints i2 id) id) id
    · exact ua.ints (u4.ints i3 id) id
    · exact Tab.Ok3.empty bN ns0 8 (by omega) (fun i j h2 hi => by have : ns0.length = 2 := rfl; omega) (by decide)
    · intro id h2 hlt
      have : ns0.length = 2 := rfl
      omega
  clear u1 i1 s1 u2 i2 s2 u3 i3 s3 u4 dg4 ne4 lo4 hmk0 Hg1 Hg2 Hg3 HgB HgK C2' C3' C3''
  go_loopw [9, 10] (fun vK i wr => ∃ k : Nat, ∃ ns : List Tab.K3, ∃ gN gU gD cN cD p : Nat, ∃ us dp : List Int, k ≤ N ∧ i = .int .i64 k ∧ vK = .slice (some ⟨gK, 0, none⟩) ns.length (N + 2) ∧ ns.length ≤ k + 2 ∧ 2 ≤ ns.length ∧
    Hid (LN w wr B g1 g2 g3 D gK N (z1.take len1) (z2.take len2) (z3.take len3) ns gN gU gD cN cD p us dp)) (fun _ i _ => N - (intOf i).toNat)
  case atStart => exact ⟨0, ns0, _, _, _, _, _, _, _, _, Nat.zero_le _, rfl, rfl, Nat.le_refl _, Nat.le_refl _, HL0⟩
  case round =>
    clear HL0
    obtain ⟨k, ns, gN, gU, gD, cN, cD, p, us, dp, hk, rfl, rfl, hlen, hge, HL⟩ := hrel
    obtain ⟨n, hn⟩ : ∃ n, n = ns.length := ⟨_, rfl⟩
    rw [← hn] at hlen hge ⊢
    have HNn : Hid (n = ns.length) := hn
    clear hn
    by_cases hlt : k < N
    · have ca := HL.out.r1.cell (i := k) (by simp; omega)
      have cb := HL.out.r2.cell (i := k) (by simp; omega)
      have cc := HL.out.r3.cell (i := k) (by simp; omega)
      have bnd : ∀ {z : List Int} {len : Nat}, Hid (∀ x ∈ z, -2147483648 ≤ x ∧ x ≤ 2147483647) → k < (z.take len).length → -2147483648 ≤ (z.take len).getD k 0 ∧ (z.take len).getD k 0 ≤ 2147483647 := fun R h => R.out _ (List.mem_of_mem_take (Tab.mem_of_getD h))
      have ba := bnd R1 (len := len1) (by simp; omega)
      have bb := bnd R2 (len := len2) (by simp; omega)
      have bc := bnd R3 (len := len3) (by simp; omega)
      clear bnd
      generalize (z1.take len1).getD k 0 = v at ca ba
      generalize (z2.take len2).getD k 0 = xl at cb bb
      generalize (z3.take len3).getD k 0 = xh at cc bc
      obtain ⟨l, HPl⟩ : ∃ l, Hid (pickN xl n = l) := ⟨_, rfl⟩
      obtain ⟨h, HPh⟩ : ∃ h, Hid (pickN xh n = h) := ⟨_, rfl⟩
      have hl : l < n := by rw [← HPl.out]; exact pickN_lt _ _ hge
      have hh : h < n := by rw [← HPh.out]; exact pickN_lt _ _ hge
      have q1 : Blk wr g1 ((z1.take len1).map (Value.int .i32)) 21 := HL.out.r1
      by_cases elh : l = h
      · subst elh
        have hne : ((l : Int) != (l : Int)) = false := by simp
        have HD : Hid (Blk wr D [.slice (some ⟨gN, 0, none⟩) n cN, .slice (some ⟨gU, 0, none⟩) us.length us.length, .slice (some ⟨gD, 0, none⟩) n cD] 52) := by rw [HNn.out]; exact HL.out.dg.d
        go_wp2_with (first | (go_at_call 13; refine (pick_at xl n l _ HPl bb (by omega)).mono ?_; rintro e w' ⟨rfl, rfl⟩) | (go_at_call 13; refine (pick_at xh n l _ HPh bc (by omega)).mono ?_; rintro e w' ⟨rfl, rfl⟩) | (go_at_call 15; refine (LN.same _ _ _ _).mono ?_; rintro e w' ⟨rfl, rfl⟩) | (go_at_call 16; refine (size_any D gN n cN _ _ _ HD.out (by omega)).mono ?_; rintro e w' ⟨rfl, rfl⟩))
        go_roundw
        case rel => exact ⟨k + 1, ns, gN, gU, gD, cN, cD, p, us, dp, by omega, by go_num, by rw [HNn.out], by rw [← HNn.out]; omega, by rw [← HNn.out]; exact hge, HL⟩
        case measure => simp [intOf]; omega
      · have hne : ((l : Int) != (h : Int)) = true := by simp; omega
        have hlh : l ≠ h := elh
        have HRow : Hid (wr.ownsRow B 31 3 (.slice (some ⟨gK, 0, none⟩) n (N + 2)) n (Tab.tcells ns)) := by rw [HNn.out]; exact HL.out.k
        clear elh
        by_cases hin : ∃ id, 2 ≤ id ∧ id < n ∧ Tab.nat3 ns id = (v, (l : Int), (h : Int))
        · obtain ⟨id, hid2, hidn, hkk⟩ := hin
          have HKK : Hid (Tab.nat3 ns id = (v, (l : Int), (h : Int))) := hkk
          clear hkk
          have hnn : ((id : Int) != (id : Int)) = false := by simp
          have hlz : ¬ ((id : Int) < 0) := by omega
          go_wp2_with (first | (go_at_call 13; refine (pick_at xl n l _ HPl bb (by omega)).mono ?_; rintro e w' ⟨rfl, rfl⟩) | (go_at_call 13; refine (pick_at xh n h _ HPh bc (by omega)).mono ?_; rintro e w' ⟨rfl, rfl⟩) | (go_at_call 14; refine (find3_hit B gK (N + 2) n id ns v l h _ HNn.out.symm (by omega) hge HRow.out HL.out.ok.inj hid2 hidn HKK).mono ?_; rintro e w' ⟨rfl, rfl⟩))
          refine (HL.out.hit (by rw [← HNn.out]; omega) v l h id ba (by rw [← HNn.out]; exact hl) (by rw [← HNn.out]; exact hh) hlh hid2 (by rw [← HNn.out]; exact hidn) HKK).mono ?_
          rintro e w5 ⟨rfl, hu⟩
          have HL5 : Hid (LN w w5 B g1 g2 g3 D gK N (z1.take len1) (z2.take len2) (z3.take len3) ns gN gU gD cN cD p us dp) := HL.out.quiet hu
          have HD : Hid (Blk w5 D [.slice (some ⟨gN, 0, none⟩) n cN, .slice (some ⟨gU, 0, none⟩) us.length us.length, .slice (some ⟨gD, 0, none⟩) n cD] 52) := by rw [HNn.out]; exact HL5.out.dg.d
          clear hu ca cb cc q1
          go_wp2_with (first | (go_at_call 16; refine (size_any D gN n cN _ _ _ HD.out (by omega)).mono ?_; rintro e w' ⟨rfl, rfl⟩))
          go_roundw
          case rel => exact ⟨k + 1, ns, gN, gU, gD, cN, cD, p, us, dp, by omega, by go_num, by rw [HNn.out], by rw [← HNn.out]; omega, by rw [← HNn.out]; exact hge, HL5⟩
          case measure => simp [intOf]; omega
        · have HK : Hid (∀ j, 2 ≤ j → j < n → Tab.nat3 ns j ≠ (v, (l : Int), (h : Int))) := fun j h2 hj e => hin ⟨j, h2, hj, e⟩
          clear hin
          have hnn : ((n : Int) != (n : Int)) = false := by simp
          obtain ⟨i31, hi31, hz0, hz1, hz2⟩ := info_parts info31
          go_wp2_with (first | (go_at_call 13; refine (pick_at xl n l _ HPl bb (by omega)).mono ?_; rintro e w' ⟨rfl, rfl⟩) | (go_at_call 13; refine (pick_at xh n h _ HPh bc (by omega)).mono ?_; rintro e w' ⟨rfl, rfl⟩) | (go_at_call 14; refine (find3_miss B gK (N + 2) n ns v l h _ HNn.out.symm (by omega) hge HRow.out HK).mono ?_; rintro e w' ⟨rfl, rfl⟩) | (at_builtin; refine wpList_append_fits _ rfl (.tmp 96) (.tmp 104) 28 rfl B 31 i31 3 Try.underlying28 hi31 hz1 gK n (N + 2) (Tab.tcells ns) rfl (HRow.out.alloc _) ⟨wr.heap.size, 0, none⟩ 1 1 [.int .i32 v, .int .i32 l, .int .i32 h] rfl rfl (World.news_of_block (heap_alloc_new _ _)) (Tab.tcells_one [(v, (l : Int), (h : Int))]) (by omega) ?_; intro w5 ho5 hg5; have HU5 : Hid (Upto (fun k => k = gK) wr w5) := ((Upto.refl _ wr).alloc _).trans ((Upto.ofGrown hg5).mono (fun k _ e => by cases e; rfl)); have HC5 : Hid (Blk w5 g1 ((z1.take len1).map (Value.int .i32)) 21) := HU5.out.blk q1 (by have := HL.out.lo; omega); have ca5 : w5.cell? ⟨g1, k, none⟩ = some (.int .i32 v) := by rw [← ca]; exact World.cell?_of_block (w := wr) (HU5.out.block g1 (block_lt_of_cell ca) (by have := HL.out.lo; omega))))
          refine (HL.out.fresh (w5 := w5) (by rw [← HNn.out]; omega) v l h ba (by rw [← HNn.out]; exact hl) (by rw [← HNn.out]; exact hh) hlh n HNn HK HU5.out).mono ?_
          rintro e w6 ⟨rfl, hc⟩
          obtain ⟨gN', gU', gD', cN', cD', p', us', dp', hL6⟩ := HL.out.new ba (by rw [← HNn.out]; exact hl) (by rw [← HNn.out]; exact hh) (by rw [← HNn.out]; omega) HU5.out (by rw [← HNn.out]; exact ho5) hc
          have HL6 : Hid (LN w w6 B g1 g2 g3 D gK N (z1.take len1) (z2.take len2) (z3.take len3) (ns ++ [(v, (l : Int), (h : Int))]) gN' gU' gD' cN' cD' p' us' dp') := hL6
          have HD : Hid (Blk w6 D [.slice (some ⟨gN', 0, none⟩) (n + 1) cN', .slice (some ⟨gU', 0, none⟩) us'.length us'.length, .slice (some ⟨gD', 0, none⟩) (n + 1) cD'] 52) := by
            have := HL6.out.dg.d
            rw [List.length_append, List.length_singleton, ← HNn.out] at this
            exact this
          clear hc hL6 ca cb cc q1 ca5 HC5 ho5 hg5 HU5 hi31 hz0 hz1 hz2
          go_wp2_with (first | (go_at_call 16; refine (size_any D gN' (n + 1) cN' _ _ _ HD.out (by omega)).mono ?_; rintro e w' ⟨rfl, rfl⟩))
          go_roundw
          case rel => exact ⟨k + 1, ns ++ [(v, (l : Int), (h : Int))], gN', gU', gD', cN', cD', p', us', dp', by omega, by go_num, by rw [List.length_append, ← HNn.out]; rfl, by rw [List.length_append, ← HNn.out]; simp; omega, by rw [List.length_append, ← HNn.out]; simp; omega, HL6⟩
          case measure => simp [intOf]; omega
    · have hkN : N = k := by omega
      subst hkN
      clear hk hlt
      have heq := neq31
      have HU0 : Hid (Upto (fun _ => False) wr wr) := Upto.refl _ _
      have HRow : Hid (wr.ownsRow B 31 3 (.slice (some ⟨gK, 0, none⟩) n (N + 2)) n (Tab.tcells ns)) := by rw [HNn.out]; exact HL.out.k
      go_wp2
      go_loopw [15] (fun j wx => ∃ q : Nat, 2 ≤ q ∧ q ≤ n ∧ j = .int .i64 q ∧ Hid (Upto (fun _ => False) wr wx)) (fun j _ => n - (intOf j).toNat)
      case atStart => exact ⟨2, by omega, hge, rfl, HU0⟩
      case round =>
        clear HU0
        obtain ⟨q, hq2, hqn, rfl, HU⟩ := hrel
        have HDx : Hid (DG wr B D gN gU gD cN cD ns us dp) := HL.out.dg.upto HU.out id id id id
        have HKx : Hid (wr.ownsRow B 31 3 (.slice (some ⟨gK, 0, none⟩) n (N + 2)) n (Tab.tcells ns)) := HU.out.owns HRow.out id
        by_cases hql : q < n
        · have c0 := HDx.out.c0 (i := q) (by rw [← HNn.out]; exact hql)
          have c1 := HDx.out.c1 (i := q) (by rw [← HNn.out]; exact hql)
          have c2 := HDx.out.c2 (i := q) (by rw [← HNn.out]; exact hql)
          have c3 := own3 HKx.out HNn.out.symm hql
          generalize Tab.nat3 ns q = y at c0 c1 c2 c3
          obtain ⟨y0, y1, y2⟩ := y
          dsimp only at c0 c1 c2 c3
          obtain ⟨c30, c31, c32⟩ := c3
          have HDb : Hid (Blk wr D [.slice (some ⟨gN, 0, none⟩) n cN, .slice (some ⟨gU, 0, none⟩) us.length us.length, .slice (some ⟨gD, 0, none⟩) n cD] 52) := by rw [HNn.out]; exact HDx.out.d
          have hgK : gK < wr.heap.size := (HKx.out.lt gK rfl).2
          have hee : (!(y0 == y0 && (y1 == y1 && y2 == y2))) = false := by simp
          go_wp2
          go_region_with (go_at_call 17; refine (nodeAt_any D gN n cN q y0 y1 y2 _ _ _ (by first | exact HDb.out | exact HDb.out.drew) hql (by omega) (by assumption) (by assumption) (by assumption)).mono ?_; rintro e w' ⟨rfl, rfl⟩)
          all_goals
            go_wp2
            go_roundw
            case rel => exact ⟨q + 1, by omega, by omega, by go_num, by first | exact (HU.out.alloc _).drew | exact (HU.out.drew).alloc _ | exact HU.out.alloc _ | exact (HU.out.alloc _).drewN _⟩
            case measure => simp [intOf]; omega
        · go_wp2
          go_ret
          exact ⟨rfl, (HL.out.up.mono (fun k _ e => by omega)).trans (HU.out.mono (fun k _ e => e.elim))⟩

set_option maxRecDepth 100000 in
set_option maxHeartbeats 1000000 in
/-- No node at all. -/
theorem law3_none (a1 : Option Addr) (len1 cap1 : Nat) (z1 : List Int) (a2 : Option Addr) (len2 cap2 : Nat) (z2 : List Int) (a3 : Option Addr) (len3 cap3 : Nat) (z3 : List Int) (w : World) (h1 : len1 ≤ 4096) (h2 : len2 ≤ 4096) (h3 : len3 ≤ 4096)
    (s1 : SrcOk w a1 len1 cap1 z1) (s2 : SrcOk w a2 len2 cap2 z2) (s3 : SrcOk w a3 len3 cap3 z3) (h0 : len1 = 0 ∨ len2 = 0 ∨ len3 = 0) :
    Calls Try.prog 3 #[.slice a1 len1 cap1, .slice a2 len2 cap2, .slice a3 len3 cap3] w fun e w' => e = .returned (.bool true) ∧ Upto (fun k => w.heap.size ≤ k) w w' := by
  have hb : Hid (decide (len1 + len2 + len3 ≤ 1048576) = true) := decide_eq_true (by omega)
  have hm1 : len1 ≤ maxLen := by unfold maxLen; omega
  have hm2 : len2 ≤ maxLen := by unfold maxLen; omega
  have hm3 : len3 ≤ maxLen := by unfold maxLen; omega
  have H0 : Hid (len1 = 0 ∨ len2 = 0 ∨ len3 = 0) := h0
  clear h0
  go_enter Try.func3, Try.ntmps3
  go_wp2_with (first | (go_at_call 9; refine (bytes9 _ _ _ _ _ _ _ _ _ _ hm1 hm2 hm3 true hb).mono ?_; rintro e w' ⟨rfl, rfl⟩))
  refine (clone_any a1 len1 cap1 z1 w (by omega) s1).mono ?_
  rintro e w1 ⟨c1, rfl, u1⟩
  go_wp2_with (fail)
  refine (clone_any a2 len2 cap2 z2 w1 (by omega) (s2.upto u1)).mono ?_
  rintro e w2 ⟨c2, rfl, u2⟩
  go_wp2_with (fail)
  refine (clone_any a3 len3 cap3 z3 w2 (by omega) ((s3.upto u1).upto u2)).mono ?_
  rintro e w3 ⟨c3, rfl, u3⟩
  go_wp2_with (fail)
  refine (min3_any len1 len2 len3 w3 h1 h2 h3).mono ?_
  rintro e w' ⟨⟨N, rfl, hN1, hN2, hN3, _⟩, rfl⟩
  have hN : N = 0 := by have := H0.out; omega
  subst hN
  go_wp2_with (fail)
  refine (newDiagram w3).mono ?_
  rintro e w4 ⟨D, gN0, gU0, gD0, rfl, u4, dg4, ne4, lo4⟩
  have hmk0 := make28_2
  have HU4 : Hid (Upto (fun k => w.heap.size ≤ k) w (w4.alloc (Obj.cells N2 31))) := by
    have m0 : ∀ {a b : World}, Upto (fun _ => False) a b → Upto (fun k => w.heap.size ≤ k) a b := fun h => h.mono (fun k _ h => absurd h (fun h => h))
    exact ((((m0 u1).trans (m0 u2)).trans (m0 u3)).trans (m0 u4)).alloc _
  clear dg4 ne4 lo4
  go_wp2_with (fail)
  obtain ⟨gK, HgK⟩ : ∃ g, Hid (g = w4.heap.size) := ⟨_, rfl⟩
  rw [← HgK.out]
  go_loopw [9, 10] (fun vK i wr => vK = .slice (some ⟨gK, 0, none⟩) 2 2 ∧ i = .int .i64 0 ∧ Hid (Upto (fun k => w.heap.size ≤ k) w wr)) (fun _ _ _ => 0)
  case atStart => exact ⟨rfl, rfl, HU4⟩
  case round =>
    obtain ⟨rfl, rfl, HX⟩ := hrel
    go_wp2
    go_loopw [15] (fun i wx => i = .int .i64 2 ∧ Hid (Upto (fun k => w.heap.size ≤ k) w wx)) (fun _ _ => 0)
    case atStart => exact ⟨rfl, HX⟩
    case round =>
      obtain ⟨rfl, HY⟩ := hrel
      go_wp2
      go_ret
      exact ⟨rfl, HY.out⟩

theorem law3 (a1 : Option Addr) (len1 cap1 : Nat) (z1 : List Int) (a2 : Option Addr) (len2 cap2 : Nat) (z2 : List Int) (a3 : Option Addr) (len3 cap3 : Nat) (z3 : List Int) (w : World)
    (h1 : len1 ≤ maxLen) (h2 : len2 ≤ maxLen) (h3 : len3 ≤ maxLen) (s1 : SrcOk w a1 len1 cap1 z1) (s2 : SrcOk w a2 len2 cap2 z2) (s3 : SrcOk w a3 len3 cap3 z3)
    (r1 : ∀ x ∈ z1, -2147483648 ≤ x ∧ x ≤ 2147483647) (r2 : ∀ x ∈ z2, -2147483648 ≤ x ∧ x ≤ 2147483647) (r3 : ∀ x ∈ z3, -2147483648 ≤ x ∧ x ≤ 2147483647) :
    Calls Try.prog 3 #[.slice a1 len1 cap1, .slice a2 len2 cap2, .slice a3 len3 cap3] w fun e w' => e = .returned (.bool true) ∧ Upto (fun k => w.heap.size ≤ k) w w' := by
  by_cases hout : 1048576 < len1 + len2 + len3 ∨ 1048576 < 4 * (len1 + len2 + len3) ∨ 4096 < len1 ∨ 4096 < len2 ∨ 4096 < len3
  · refine (law3_out a1 len1 cap1 a2 len2 cap2 a3 len3 cap3 w h1 h2 h3 hout).mono ?_
    rintro e w' ⟨rfl, rfl⟩
    exact ⟨rfl, Upto.refl _ _⟩
  · by_cases h0 : len1 = 0 ∨ len2 = 0 ∨ len3 = 0
    · exact law3_none a1 len1 cap1 z1 a2 len2 cap2 z2 a3 len3 cap3 z3 w (by omega) (by omega) (by omega) s1 s2 s3 h0
    · obtain ⟨b1, o1, rfl, hl1, c1⟩ := s1.some (by omega)
      obtain ⟨b2, o2, rfl, hl2, c2⟩ := s2.some (by omega)
      obtain ⟨b3, o3, rfl, hl3, c3⟩ := s3.some (by omega)
      exact law3_main b1 o1 len1 cap1 z1 b2 o2 len2 cap2 z2 b3 o3 len3 cap3 z3 w (by omega) (by omega) (by omega) hl1 hl2 hl3 c1 c2 c3 r1 r2 r3
end Go.Proofs.Qxb6600921a
