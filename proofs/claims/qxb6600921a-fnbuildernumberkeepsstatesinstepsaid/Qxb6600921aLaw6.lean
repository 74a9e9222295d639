/-
  FnBuilderNumberKeepsStatesInStep: the walk of the law.
-/
import Derived.Test.Qxb6600921aBn
import Derived.Test.Qxb6600921aSrc
import Derived.Deep.RegionHeld3
namespace Go.Proofs.Qxb6600921a
open Go.RowKit
set_option linter.unusedVariables false

theorem bytes25 (a1 : Option Addr) (len1 cap1 : Nat) (a2 : Option Addr) (len2 cap2 : Nat) (w : World) (h1 : len1 ≤ maxLen) (h2 : len2 ≤ maxLen) (b : Bool) (hb : Hid (decide (len1 + len2 ≤ 1048576) = b)) :
    Calls Try.prog 25 #[.slice a1 len1 cap1, .slice a2 len2 cap2] w fun e w' => e = .returned (.bool b) ∧ w = w' := by
  have hb' := hb.out
  clear hb
  unfold maxLen at h1 h2
  by_cases c1 : len1 + len2 ≤ 1048576
  · have : b = true := by simpa [c1] using hb'.symm
    subst this
    clear hb'
    go_enter Try.func25, Try.ntmps25
    go_wp2
    go_ret
    exact ⟨rfl, rfl⟩
  · have : b = false := by simpa [c1] using hb'.symm
    subst this
    clear hb'
    by_cases c2 : len1 ≤ 1048576
    · by_cases c3 : len2 ≤ 1048576
      all_goals
        go_enter Try.func25, Try.ntmps25
        go_wp2
        go_ret
        exact ⟨rfl, rfl⟩
    · go_enter Try.func25, Try.ntmps25
      go_wp2
      go_ret
      exact ⟨rfl, rfl⟩

theorem find_as6 (gA gB cA cB : Nat) (ss : List (Int × Int)) (a b F : Int) (w : World) (hF : Hid (fp ss (a, b) = F)) (hlen : ss.length ≤ 1048576)
    (oA : ∃ base, w.ownsRow base 21 1 (.slice (some ⟨gA, 0, none⟩) ss.length cA) ss.length ((ss.map Prod.fst).map (Value.int .i32)))
    (oB : ∃ base, w.ownsRow base 21 1 (.slice (some ⟨gB, 0, none⟩) ss.length cB) ss.length ((ss.map Prod.snd).map (Value.int .i32))) :
    Calls Try.prog 22 #[.slice (some ⟨gA, 0, none⟩) ss.length cA, .slice (some ⟨gB, 0, none⟩) ss.length cB, .int .i32 a, .int .i32 b] w fun e w' => e = .returned (.int .i32 F) ∧ w' = w :=
  (findPair_as gA gB cA cB ss a b F w hF hlen oA oB).mono (fun e w' h => ⟨h.1, h.2.symm⟩)

/-- Memory at each step. -/
structure LB (w wr : World) (gl gr B gL gR N : Nat) (zl zr : List Int) (vp vt : Value) (ss : List (Int × Int)) (So : Option Nat) (ts : List Tab.NP) : Prop where
  up : Upto (fun k => w.heap.size ≤ k) w wr
  l : Ints wr gl .i32 21 zl
  r : Ints wr gr .i32 21 zr
  p : BS wr w.heap.size B vp vt So ts ss
  oL : wr.ownsRow w.heap.size 21 1 (.slice (some ⟨gL, 0, none⟩) ss.length N) ss.length ((ss.map Prod.fst).map (Value.int .i32))
  oR : wr.ownsRow w.heap.size 21 1 (.slice (some ⟨gR, 0, none⟩) ss.length N) ss.length ((ss.map Prod.snd).map (Value.int .i32))
  so : ∀ S, So = some S → gR < S
  st : ∀ g, vt.ownBlock = some g → gR < g
  sz : gR < wr.heap.size

structure Ord6 (w : World) (gl gr B gL gR : Nat) : Prop where
  h1 : w.heap.size ≤ gl
  h2 : gl < gr
  h3 : gr < B
  h5 : B < gL
  h6 : gL < gR

theorem BS.upto {P : Nat → Prop} {w w' : World} {base B : Nat} {vp vt : Value} {So : Option Nat} {ts : List Tab.NP} {ss : List (Int × Int)} (h : BS w base B vp vt So ts ss) (hu : Upto P w w') (hB : ¬ P B) (hS : ∀ S, So = some S → ¬ P S) (hT : ∀ g, vt.ownBlock = some g → ¬ P g) : BS w' base B vp vt So ts ss := by
  obtain ⟨xs, hx⟩ := h.s
  exact ⟨h.p.kept hu hB hS, ⟨xs, hu.ownsV hx hT⟩, h.d, h.b⟩

theorem LB.drewN {w wr : World} {gl gr B gL gR N : Nat} {zl zr : List Int} {vp vt : Value} {ss : List (Int × Int)} {So : Option Nat} {ts : List Tab.NP} (h : LB w wr gl gr B gL gR N zl zr vp vt ss So ts) (q : Nat) : LB w (wr.drewN q) gl gr B gL gR N zl zr vp vt ss So ts := by
  have hu : Upto (fun _ => False) wr (wr.drewN q) := (Upto.refl _ _).drewN q
  exact ⟨h.up.drewN q, hu.ints h.l (fun h => h), hu.ints h.r (fun h => h), h.p.upto hu (fun h => h) (fun _ _ h => h) (fun _ _ h => h), hu.owns h.oL (fun h => h), hu.owns h.oR (fun h => h), h.so, h.st, h.sz⟩
theorem bnum_seen6 (base B : Nat) (vp vt : Value) (So : Option Nat) (ts : List Tab.NP) (ss : List (Int × Int)) (a b F : Int) (w : World) (hF : Hid (fp ss (a, b) = F)) (h : BS w base B vp vt So ts ss) (hr : R32 (a, b)) (hss : ss.length ≤ 5000) (hm : (a, b) ∈ ss) :
    Calls Try.prog 27 #[.pointer (some ⟨B, 0, none⟩), .int .i32 a, .int .i32 b] w fun e w' => e = .returned (.int .i32 F) ∧ w' = w :=
  (bnum_seen27 base B vp vt So ts ss a b F w hF h hr hss hm).mono (fun e w' h => ⟨h.1, h.2.symm⟩)

theorem LB.fresh {w wr w2 w3 : World} {gl gr B gL gR N : Nat} {zl zr : List Int} {vp vt : Value} {ss : List (Int × Int)} {So : Option Nat} {ts : List Tab.NP} {a b : Int} (h : LB w wr gl gr B gL gR N zl zr vp vt ss So ts) (o : Ord6 w gl gr B gL gR)
    (hu : Upto (fun k => k = gL ∨ k = gR) wr w2)
    (oL : w2.ownsRow w.heap.size 21 1 (.slice (some ⟨gL, 0, none⟩) (ss ++ [(a, b)]).length N) (ss ++ [(a, b)]).length (((ss ++ [(a, b)]).map Prod.fst).map (Value.int .i32)))
    (oR : w2.ownsRow w.heap.size 21 1 (.slice (some ⟨gR, 0, none⟩) (ss ++ [(a, b)]).length N) (ss ++ [(a, b)]).length (((ss ++ [(a, b)]).map Prod.snd).map (Value.int .i32)))
    (hc : NewB w2 w3 w.heap.size B vt So (ss ++ [(a, b)])) : ∃ vp' vt' So' ts', LB w w3 gl gr B gL gR N zl zr vp' vt' (ss ++ [(a, b)]) So' ts' ∧ ∃ g cap, vt' = .slice (some ⟨g, 0, none⟩) (ss ++ [(a, b)]).length cap := by
  obtain ⟨vp', vt', So', ts', c1, c2, c3, g, cap, c4, c5⟩ := hc
  have h1 := o.h1; have h2 := o.h2; have h3 := o.h3; have h5 := o.h5; have h6 := o.h6
  have n2 : ∀ k, k ≤ gR → k ≠ B → ¬ (k = B ∨ So = some k ∨ vt.ownBlock = some k) := by
    intro k hk hkB e
    rcases e with e | e | e
    · exact hkB e
    · have := h.so k e; omega
    · have := h.st k e; omega
  have a1 := hu.size
  have a2 := c2.size
  have a3 := h.sz
  refine ⟨vp', vt', So', ts', ⟨(h.up.trans (hu.mono (fun k _ e => by omega))).trans (c2.mono (fun k _ e => by rcases e with e | e | e; omega; have := h.so k e; omega; have := h.st k e; omega)), c2.ints (hu.ints h.l (by omega)) (n2 _ (by omega) (by omega)), c2.ints (hu.ints h.r (by omega)) (n2 _ (by omega) (by omega)), c1, c2.owns oL (n2 _ (by omega) (by omega)), c2.owns oR (n2 _ (by omega) (by omega)), ?_, ?_, by omega⟩, g, cap, c4⟩
  · intro S hS'
    rcases c3 with e | ⟨S2, e, hlt⟩
    · exact h.so S (e ▸ hS')
    · rw [e] at hS'
      cases hS'
      omega
  · intro g' hg'
    rw [c4] at hg'
    have e : g = g' := by simpa [Value.ownBlock] using hg'
    rcases c5 with e2 | e2
    · exact h.st g' (e ▸ e2)
    · omega

set_option maxRecDepth 100000 in
/-- The ways on which the law says true at once. -/
theorem law6_out (a1 : Option Addr) (len1 cap1 : Nat) (a2 : Option Addr) (len2 cap2 : Nat) (w : World) (h1 : len1 ≤ maxLen) (h2 : len2 ≤ maxLen)
    (hout : 1048576 < len1 + len2 ∨ 1048576 < 4 * (len1 + len2) ∨ 4096 < len1 ∨ 4096 < len2) :
    Calls Try.prog 6 #[.slice a1 len1 cap1, .slice a2 len2 cap2] w fun e w' => e = .returned (.bool true) ∧ w = w' := by
  by_cases c1 : len1 + len2 ≤ 1048576
  · have hb : Hid (decide (len1 + len2 ≤ 1048576) = true) := decide_eq_true c1
    by_cases c2 : 1048576 < 4 * (len1 + len2)
    · go_enter Try.func6, Try.ntmps6
      go_wp2_with (go_at_call 25; refine (bytes25 _ _ _ _ _ _ _ h1 h2 true hb).mono ?_; rintro e w' ⟨rfl, rfl⟩)
      go_ret
      exact ⟨rfl, rfl⟩
    · by_cases c3 : 4096 < len1
      · go_enter Try.func6, Try.ntmps6
        go_wp2_with (go_at_call 25; refine (bytes25 _ _ _ _ _ _ _ h1 h2 true hb).mono ?_; rintro e w' ⟨rfl, rfl⟩)
        go_ret
        exact ⟨rfl, rfl⟩
      · have c4 : 4096 < len2 := by omega
        clear hout
        go_enter Try.func6, Try.ntmps6
        go_wp2_with (go_at_call 25; refine (bytes25 _ _ _ _ _ _ _ h1 h2 true hb).mono ?_; rintro e w' ⟨rfl, rfl⟩)
        go_ret
        exact ⟨rfl, rfl⟩
  · have hb : Hid (decide (len1 + len2 ≤ 1048576) = false) := decide_eq_false c1
    go_enter Try.func6, Try.ntmps6
    go_wp2_with (go_at_call 25; refine (bytes25 _ _ _ _ _ _ _ h1 h2 false hb).mono ?_; rintro e w' ⟨rfl, rfl⟩)
    go_ret
    exact ⟨rfl, rfl⟩

set_option maxRecDepth 100000 in
set_option maxHeartbeats 1000000 in
theorem law6_main (b1 o1 len1 cap1 : Nat) (z1 : List Int) (b2 o2 len2 cap2 : Nat) (z2 : List Int) (w : World) (h1 : len1 ≤ 4096) (h2 : len2 ≤ 4096)
    (hl1 : len1 ≤ z1.length) (hl2 : len2 ≤ z2.length)
    (c1 : ∀ i, i < z1.length → w.cell? ⟨b1, o1 + i, none⟩ = some (.int .i32 (z1.getD i 0)))
    (c2 : ∀ i, i < z2.length → w.cell? ⟨b2, o2 + i, none⟩ = some (.int .i32 (z2.getD i 0)))
    (r1 : ∀ x ∈ z1, -2147483648 ≤ x ∧ x ≤ 2147483647) (r2 : ∀ x ∈ z2, -2147483648 ≤ x ∧ x ≤ 2147483647) :
    Calls Try.prog 6 #[.slice (some ⟨b1, o1, none⟩) len1 cap1, .slice (some ⟨b2, o2, none⟩) len2 cap2] w fun e w' => e = .returned (.bool true) ∧ Upto (fun k => w.heap.size ≤ k) w w' := by
  have hb : Hid (decide (len1 + len2 ≤ 1048576) = true) := decide_eq_true (by omega)
  have hm1 : len1 ≤ maxLen := by unfold maxLen; omega
  have hm2 : len2 ≤ maxLen := by unfold maxLen; omega
  have C1 : Hid (∀ i, i < z1.length → w.cell? ⟨b1, o1 + i, none⟩ = some (.int .i32 (z1.getD i 0))) := c1
  have C2 : Hid (∀ i, i < z2.length → w.cell? ⟨b2, o2 + i, none⟩ = some (.int .i32 (z2.getD i 0))) := c2
  have R1 : Hid (∀ x ∈ z1, -2147483648 ≤ x ∧ x ≤ 2147483647) := r1
  have R2 : Hid (∀ x ∈ z2, -2147483648 ≤ x ∧ x ≤ 2147483647) := r2
  clear c1 c2 r1 r2
  go_enter Try.func6, Try.ntmps6
  go_wp2_with (first | (go_at_call 25; refine (bytes25 _ _ _ _ _ _ _ hm1 hm2 true hb).mono ?_; rintro e w' ⟨rfl, rfl⟩))
  refine (clone_some b1 o1 len1 cap1 z1 w hl1 (by omega) C1.out).mono ?_
  rintro e w1 ⟨rfl, u1, i1, s1⟩
  have C2' : Hid (∀ i, i < z2.length → w1.cell? ⟨b2, o2 + i, none⟩ = some (.int .i32 (z2.getD i 0))) := by
    intro i hi
    have c0 := C2.out i hi
    rw [← c0]
    exact World.cell?_of_block (w := w) (u1.block b2 (block_lt_of_cell c0) (fun h => h))
  go_wp2_with (fail)
  refine (clone_some b2 o2 len2 cap2 z2 w1 hl2 (by omega) C2'.out).mono ?_
  rintro e w2 ⟨rfl, u2, i2, s2⟩
  go_upto_if 41 with (fail)
  go_cut [5] (fun v wc => ∃ N : Nat, v = .int .i64 N ∧ N ≤ len1 ∧ N ≤ len2 ∧ w2 = wc)
  case first =>
    by_cases hlt : len2 < len1
    · go_wp2
      go_meet
      case rel => exact ⟨len2, rfl, by omega, by omega, rfl⟩
    · go_wp2
      go_meet
      case rel => exact ⟨len1, rfl, by omega, by omega, rfl⟩
  case rest =>
    obtain ⟨N, rfl, hN1, hN2, rfl⟩ := hcut
    go_wp2_with (fail)
    refine (new_any none 0 0 _).mono ?_
    rintro e w4 ⟨rfl, u4, B4, s4⟩
    have hmk0 := make22_0 N (by omega)
    go_wp2_with (fail)
    obtain ⟨gl, Hgl⟩ : ∃ g, Hid (g = w.heap.size) := ⟨_, rfl⟩
    obtain ⟨gr, Hgr⟩ : ∃ g, Hid (g = w1.heap.size) := ⟨_, rfl⟩
    obtain ⟨X, HgX⟩ : ∃ g, Hid (g = w2.heap.size) := ⟨_, rfl⟩
    rw [← Hgl.out, ← Hgr.out, ← HgX.out]
    have ho : Ord6 w gl gr X (X + 1) (X + 1 + 1) := by
      have e1 := Hgl.out; have e2 := Hgr.out; have e3 := HgX.out
      exact ⟨by omega, by omega, by omega, by omega, by omega⟩
    have HL0 : Hid (LB w ((w4.alloc (Obj.cells (madeCells #[Value.int IntKind.i32 0] N) 21)).alloc (Obj.cells (madeCells #[Value.int IntKind.i32 0] N) 21)) gl gr X (X + 1) (X + 1 + 1) N (z1.take len1) (z2.take len2) (.slice none 0 0) (.slice none 0 0) [] none []) := by
      have e1 := Hgl.out; have e2 := Hgr.out; have e3 := HgX.out
      have s5 : (w4.alloc (Obj.cells (madeCells #[Value.int IntKind.i32 0] N) 21)).heap.size = w4.heap.size + 1 := by simp
      have m0 : ∀ {a b : World}, Upto (fun _ => False) a b → Upto (fun k => w.heap.size ≤ k) a b := fun h => h.mono (fun k _ h => absurd h (fun h => h))
      have i1' := u2.ints i1 (fun h => h)
      have i2' := i2
      rw [← e1] at i1'
      rw [← e2] at i2'
      rw [← e3] at B4
      refine ⟨?_, Blk.alloc (Blk.alloc (u4.ints i1' (fun h => h)) _) _, Blk.alloc (Blk.alloc (u4.ints i2' (fun h => h)) _) _, ⟨⟨(B4.alloc _).alloc _, rfl, Or.inl ⟨rfl, rfl, rfl, rfl⟩, List.Perm.refl _, (fun q hq => by cases hq), List.nodup_nil⟩, ⟨[], World.ownsRow_nil _ _ _ _⟩, (fun S g hS _ => by cases hS), (fun g hg => by cases hg)⟩, ?_, ?_, (fun S hS => by cases hS), (fun g hg => by cases hg), by simp; omega⟩
      · exact (((m0 u1).trans (m0 u2)).trans (m0 u4)).trans (((Upto.refl _ _).alloc _).alloc _)
      · have := World.ownsRow_made (base := w.heap.size) (e := 21) (size := 1) w4 (madeCells #[Value.int IntKind.i32 0] N) N (by omega) (by unfold maxLen; omega) (by rw [size_madeCells]; omega)
        rw [s4, ← e3] at this
        exact this.alloc _
      · have := World.ownsRow_made (base := w.heap.size) (e := 21) (size := 1) (w4.alloc (Obj.cells (madeCells #[Value.int IntKind.i32 0] N) 21)) (madeCells #[Value.int IntKind.i32 0] N) N (by omega) (by unfold maxLen; omega) (by rw [size_madeCells]; omega)
        rw [s5, s4, ← e3] at this
        exact this
    clear u1 i1 s1 u2 i2 s2 u4 B4 hmk0 s4 Hgl Hgr HgX C2'
    go_loopw [7, 8, 9] (fun vL vR i wr => ∃ k : Nat, ∃ ss : List (Int × Int), ∃ vp vt : Value, ∃ So : Option Nat, ∃ ts : List Tab.NP, k ≤ N ∧ i = .int .i64 k ∧ vL = .slice (some ⟨X + 1, 0, none⟩) ss.length N ∧ vR = .slice (some ⟨X + 1 + 1, 0, none⟩) ss.length N ∧
      ss.length ≤ k ∧ Hid (LB w wr gl gr X (X + 1) (X + 1 + 1) N (z1.take len1) (z2.take len2) vp vt ss So ts)) (fun _ _ i _ => N - (intOf i).toNat)
    case atStart => exact ⟨0, [], _, _, none, [], Nat.zero_le _, rfl, rfl, rfl, Nat.le_refl _, HL0⟩
    case round =>
      clear HL0
      obtain ⟨k, ss, vp, vt, So, ts, hk, rfl, rfl, rfl, hlen, HL⟩ := hrel
      by_cases hlt : k < N
      · have cl := HL.out.l.cell (i := k) (by simp; omega)
        have cr := HL.out.r.cell (i := k) (by simp; omega)
        have ha : (z1.take len1).getD k 0 ∈ z1 := List.mem_of_mem_take (Tab.mem_of_getD (by simp; omega))
        have hb' : (z2.take len2).getD k 0 ∈ z2 := List.mem_of_mem_take (Tab.mem_of_getD (by simp; omega))
        have ba := R1.out _ ha
        have bb := R2.out _ hb'
        have HCL : Hid ((z1.take len1).getD k 0 = (z1.take len1).getD k 0 ∧ k < (z1.take len1).length) := ⟨rfl, by simp; omega⟩
        have HCR : Hid ((z2.take len2).getD k 0 = (z2.take len2).getD k 0 ∧ k < (z2.take len2).length) := ⟨rfl, by simp; omega⟩
        obtain ⟨a, HAa⟩ : ∃ a, Hid ((z1.take len1).getD k 0 = a) := ⟨_, rfl⟩
        obtain ⟨b, HBb⟩ : ∃ b, Hid ((z2.take len2).getD k 0 = b) := ⟨_, rfl⟩
        rw [HAa.out] at cl ba
        rw [HBb.out] at cr bb
        clear ha hb'
        have HR : Hid (R32 (a, b)) := ⟨ba.1, ba.2, bb.1, bb.2⟩
        clear ba bb
        have hk0 : (0 : Int) ≤ (k : Int) := by omega
        have hk1 : (k : Int) < (len1 : Int) := by omega
        have hk2 : (k : Int) < (len2 : Int) := by omega
        by_cases hin : (a, b) ∈ ss
        · have HF : Hid (fp ss (a, b) = (ss.idxOf (a, b) : Int)) := by show fp ss (a, b) = _; unfold fp; rw [if_pos hin]
          have hfl : ss.idxOf (a, b) < ss.length := List.idxOf_lt_length_iff.2 hin
          generalize ss.idxOf (a, b) = f at HF hfl
          have Hin : Hid ((a, b) ∈ ss) := hin
          clear hin
          obtain ⟨gS, cS, hvt⟩ : ∃ g cap, vt = .slice (some ⟨g, 0, none⟩) ss.length cap := by
            obtain ⟨xs, hx⟩ := HL.out.p.s
            obtain ⟨g, cap, e, _⟩ := hx.form (by omega)
            exact ⟨g, cap, e⟩
          subst hvt
          go_wp2_with (fail)
          go_quiet ((go_at_call 22; exact Calls.quiet_of_same (find_as6 (X + 1) (X + 1 + 1) N N ss a b f _ HF (by omega) ⟨_, HL.out.oL⟩ ⟨_, HL.out.oR⟩)))
          have HL9 : Hid (LB w (wr.drewN nq) gl gr X (X + 1) (X + 1 + 1) N (z1.take len1) (z2.take len2) vp (.slice (some ⟨gS, 0, none⟩) ss.length cS) ss So ts) := HL.out.drewN nq
          have cl9 : (wr.drewN nq).cell? ⟨gl, k, none⟩ = some (.int .i32 a) := cl
          have cr9 : (wr.drewN nq).cell? ⟨gr, k, none⟩ = some (.int .i32 b) := cr
          clear cl cr HL
          generalize wr.drewN nq = w9 at HL9 cl9 cr9 ⊢
          go_wp2
          go_quiet ((go_at_call 27; exact Calls.quiet_of_same (bnum_seen6 w.heap.size X vp _ So ts ss a b f _ HF (by exact (HL9.out.drewN _).p) HR.out (by omega) Hin.out)))
          have HL8 : Hid (LB w (w9.drewN nq) gl gr X (X + 1) (X + 1 + 1) N (z1.take len1) (z2.take len2) vp (.slice (some ⟨gS, 0, none⟩) ss.length cS) ss So ts) := HL9.out.drewN nq
          clear cl9 cr9 HL9
          generalize w9.drewN nq = w8 at HL8 ⊢
          go_wp2_with (go_at_call 28; refine (zzStates X ss.length cS _ vp _ _ HL8.out.p.p.b).mono ?_; rintro e w' ⟨rfl, rfl⟩)
          go_roundw
          case rel => exact ⟨k + 1, ss, vp, _, So, ts, by omega, by go_num, rfl, rfl, by omega, HL8⟩
          case measure => simp [intOf]; omega
        · have HF : Hid (fp ss (a, b) = -1) := by show fp ss (a, b) = _; unfold fp; rw [if_neg hin]
          have Hin : Hid ((a, b) ∉ ss) := hin
          clear hin
          go_wp2_with (fail)
          go_quiet ((go_at_call 22; exact Calls.quiet_of_same (find_as6 (X + 1) (X + 1 + 1) N N ss a b (-1) _ HF (by omega) ⟨_, HL.out.oL⟩ ⟨_, HL.out.oR⟩)))
          have HL9 : Hid (LB w (wr.drewN nq) gl gr X (X + 1) (X + 1 + 1) N (z1.take len1) (z2.take len2) vp vt ss So ts) := HL.out.drewN nq
          have cl9 : (wr.drewN nq).cell? ⟨gl, k, none⟩ = some (.int .i32 a) := cl
          have cr9 : (wr.drewN nq).cell? ⟨gr, k, none⟩ = some (.int .i32 b) := cr
          clear cl cr HL
          generalize wr.drewN nq = w9 at HL9 cl9 cr9 ⊢
          obtain ⟨i21, hi21, hz0, hz1, hz2⟩ := info_parts info21
          have HI21 : Hid (Try.prog.info? 21 = some i21) := hi21
          have HZ1 : Hid (i21.size = 1) := hz1
          clear hi21 hz0 hz1 hz2
          have hgl9 : gl < w9.heap.size := Blk.lt HL9.out.l
          have hgr9 : gr < w9.heap.size := Blk.lt HL9.out.r
          go_wp2_with (first | (at_builtin; refine wpList_append_fits _ rfl (.tmp 70) (.tmp 75) 22 rfl w.heap.size 21 i21 1 Try.underlying22 HI21.out HZ1.out (X + 1) ss.length N ((ss.map Prod.fst).map (Value.int .i32)) rfl (HL9.out.oL.alloc _) ⟨w9.heap.size, 0, none⟩ 1 1 [.int .i32 a] rfl rfl (cell_one_new _ _ _) (ints_oneCell .i32 [a]) (by omega) ?_; intro w5 ho5 hg5; have cr5 : w5.cell? ⟨gr, k, none⟩ = some (.int .i32 b) := (hg5.cell_far ⟨gr, k, none⟩ (by simp; omega) (by simp; have := ho.h3; omega)).trans ((World.cell?_of_block (w := w9) (Below.heap_alloc w9 _ gr hgr9)).trans cr9)) | (at_builtin; refine wpList_append_fits _ rfl (.tmp 77) (.tmp 82) 22 rfl w.heap.size 21 i21 1 Try.underlying22 HI21.out HZ1.out (X + 1 + 1) ss.length N ((ss.map Prod.snd).map (Value.int .i32)) rfl (((Upto.ofGrown hg5).owns (HL9.out.oR.alloc _) (by simp)).alloc _) ⟨w5.heap.size, 0, none⟩ 1 1 [.int .i32 b] rfl rfl (cell_one_new _ _ _) (ints_oneCell .i32 [b]) (by omega) ?_; intro w6 ho6 hg6))
          have HU6 : Hid (Upto (fun k => k = X + 1 ∨ k = X + 1 + 1) w9 w6) := by
            refine (((Upto.refl _ w9).alloc _).trans ((Upto.ofGrown hg5).mono (fun k _ e => ?_))).trans (((Upto.refl _ w5).alloc _).trans ((Upto.ofGrown hg6).mono (fun k _ e => ?_)))
            · cases e; exact Or.inl rfl
            · cases e; exact Or.inr rfl
          have HOL : Hid (w6.ownsRow w.heap.size 21 1 (.slice (some ⟨X + 1, 0, none⟩) (ss ++ [(a, b)]).length N) (ss ++ [(a, b)]).length (((ss ++ [(a, b)]).map Prod.fst).map (Value.int .i32))) := by
            show World.ownsRow _ _ _ _ _ _ _
            rw [List.map_append, List.map_append, List.length_append]
            exact (Upto.ofGrown hg6).owns (ho5.alloc _) (by simp)
          have HOR : Hid (w6.ownsRow w.heap.size 21 1 (.slice (some ⟨X + 1 + 1, 0, none⟩) (ss ++ [(a, b)]).length N) (ss ++ [(a, b)]).length (((ss ++ [(a, b)]).map Prod.snd).map (Value.int .i32))) := by
            show World.ownsRow _ _ _ _ _ _ _
            rw [List.map_append, List.map_append, List.length_append]
            exact ho6
          clear ho5 hg5 ho6 hg6 cr5
          have h1o := ho.h1; have h2o := ho.h2; have h3o := ho.h3
          have HB6 : Hid (BS w6 w.heap.size X vp vt So ts ss) := HL9.out.p.upto HU6.out (by omega) (fun S e => by have := HL9.out.so S e; omega) (fun g e => by have := HL9.out.st g e; omega)
          have cl6 : w6.cell? ⟨gl, k, none⟩ = some (.int .i32 a) := by
            rw [← HAa.out]; exact (HU6.out.ints HL9.out.l (by omega)).cell HCL.out.2
          have cr6 : w6.cell? ⟨gr, k, none⟩ = some (.int .i32 b) := by
            rw [← HBb.out]; exact (HU6.out.ints HL9.out.r (by omega)).cell HCR.out.2
          have hsz6 : w.heap.size ≤ w6.heap.size := Nat.le_trans (HL9.out.up.size) HU6.out.size
          clear cl9 cr9 hgl9 hgr9
          go_wp2
          go_region_held3 (fun w' => w'.cell? ⟨gl, k, none⟩ = some (.int .i32 a) ∧ w'.cell? ⟨gr, k, none⟩ = some (.int .i32 b)) (go_keep)
            ((go_at_call 27; refine (bnum_fresh27 w.heap.size X vp vt So ts ss a b ss.length _ rfl (by exact HB6.out.upto ((Upto.refl (fun _ => False) w6).drew) (fun h => h) (fun _ _ h => h) (fun _ _ h => h)) HR.out (by omega) Hin.out (by simpa using hsz6)).mono ?_; rintro e w3 ⟨rfl, hc⟩; obtain ⟨vp', vt', So', ts', hL', g, cap, hvt⟩ := HL9.out.fresh ho (HU6.out.drew) (HOL.out.drew) (HOR.out.drew) hc; have HL3 : Hid (LB w w3 gl gr X (X + 1) (X + 1 + 1) N (z1.take len1) (z2.take len2) vp' vt' (ss ++ [(a, b)]) So' ts') := hL'; have HVT : Hid (vt' = .slice (some ⟨g, 0, none⟩) (ss ++ [(a, b)]).length cap) := hvt; clear hc hL' hvt; have cl3 : w3.cell? ⟨gl, k, none⟩ = some (.int .i32 a) := (by rw [← HAa.out]; exact HL3.out.l.cell HCL.out.2); have cr3 : w3.cell? ⟨gr, k, none⟩ = some (.int .i32 b) := (by rw [← HBb.out]; exact HL3.out.r.cell HCR.out.2)))
          clear cl3 cr3 cl6 cr6
          have HBk : Hid (Blk w3 X (nbl vp' (ss ++ [(a, b)]).length (.slice (some ⟨g, 0, none⟩) (ss.length + 1) cap)) 72) := by
            have := HL3.out.p.p.b
            rw [HVT.out] at this
            have e : (ss ++ [(a, b)]).length = ss.length + 1 := by simp
            rw [e] at this ⊢
            exact this
          go_wp2_with (go_at_call 28; refine (zzStates X (ss.length + 1) cap _ vp' _ _ HBk.out).mono ?_; rintro e w' ⟨rfl, rfl⟩)
          go_roundw
          case rel => exact ⟨k + 1, ss ++ [(a, b)], vp', vt', So', ts', by omega, by go_num, by simp, by simp, by simp; omega, HL3⟩
          case measure => simp [intOf]; omega
      · go_wp2
        go_ret
        exact ⟨rfl, HL.out.up⟩

set_option maxRecDepth 100000 in
set_option maxHeartbeats 1000000 in
/-- No pair at all. -/
theorem law6_none (a1 : Option Addr) (len1 cap1 : Nat) (z1 : List Int) (a2 : Option Addr) (len2 cap2 : Nat) (z2 : List Int) (w : World) (h1 : len1 ≤ 4096) (h2 : len2 ≤ 4096)
    (s1 : SrcOk w a1 len1 cap1 z1) (s2 : SrcOk w a2 len2 cap2 z2) (h0 : len1 = 0 ∨ len2 = 0) :
    Calls Try.prog 6 #[.slice a1 len1 cap1, .slice a2 len2 cap2] w fun e w' => e = .returned (.bool true) ∧ Upto (fun k => w.heap.size ≤ k) w w' := by
  have hb : Hid (decide (len1 + len2 ≤ 1048576) = true) := decide_eq_true (by omega)
  have hm1 : len1 ≤ maxLen := by unfold maxLen; omega
  have hm2 : len2 ≤ maxLen := by unfold maxLen; omega
  have H0 : Hid (len1 = 0 ∨ len2 = 0) := h0
  clear h0
  go_enter Try.func6, Try.ntmps6
  go_wp2_with (first | (go_at_call 25; refine (bytes25 _ _ _ _ _ _ _ hm1 hm2 true hb).mono ?_; rintro e w' ⟨rfl, rfl⟩))
  refine (clone_any a1 len1 cap1 z1 w (by omega) s1).mono ?_
  rintro e w1 ⟨c1, rfl, u1⟩
  go_wp2_with (fail)
  refine (clone_any a2 len2 cap2 z2 w1 (by omega) (s2.upto u1)).mono ?_
  rintro e w2 ⟨c2, rfl, u2⟩
  go_upto_if 41 with (fail)
  go_cut [5] (fun v wc => v = .int .i64 0 ∧ w2 = wc)
  case first =>
    by_cases hlt : len2 < len1
    · go_wp2
      go_meet
      case rel => have := H0.out; exact ⟨by go_num, rfl⟩
    · go_wp2
      go_meet
      case rel => have := H0.out; exact ⟨by go_num, rfl⟩
  case rest =>
    obtain ⟨rfl, rfl⟩ := hcut
    go_wp2_with (fail)
    refine (new_any none 0 0 _).mono ?_
    rintro e w4 ⟨rfl, u4, B4, s4⟩
    have hmk0 := make22_00
    have HU4 : Hid (Upto (fun k => w.heap.size ≤ k) w ((w4.alloc (Obj.cells (madeCells #[Value.int IntKind.i32 0] 0) 21)).alloc (Obj.cells (madeCells #[Value.int IntKind.i32 0] 0) 21))) := by
      have m0 : ∀ {a b : World}, Upto (fun _ => False) a b → Upto (fun k => w.heap.size ≤ k) a b := fun h => h.mono (fun k _ h => absurd h (fun h => h))
      exact (((m0 u1).trans (m0 u2)).trans (m0 u4)).trans (((Upto.refl _ _).alloc _).alloc _)
    clear B4 s4
    go_wp2_with (fail)
    go_loopw [9] (fun i wr => i = .int .i64 0 ∧ Hid (Upto (fun k => w.heap.size ≤ k) w wr)) (fun _ _ => 0)
    case atStart => exact ⟨rfl, HU4⟩
    case round =>
      obtain ⟨rfl, HX⟩ := hrel
      go_wp2
      go_ret
      exact ⟨rfl, HX.out⟩

theorem law6 (a1 : Option Addr) (len1 cap1 : Nat) (z1 : List Int) (a2 : Option Addr) (len2 cap2 : Nat) (z2 : List Int) (w : World)
    (h1 : len1 ≤ maxLen) (h2 : len2 ≤ maxLen) (s1 : SrcOk w a1 len1 cap1 z1) (s2 : SrcOk w a2 len2 cap2 z2)
    (r1 : ∀ x ∈ z1, -2147483648 ≤ x ∧ x ≤ 2147483647) (r2 : ∀ x ∈ z2, -2147483648 ≤ x ∧ x ≤ 2147483647) :
    Calls Try.prog 6 #[.slice a1 len1 cap1, .slice a2 len2 cap2] w fun e w' => e = .returned (.bool true) ∧ Upto (fun k => w.heap.size ≤ k) w w' := by
  by_cases hout : 1048576 < len1 + len2 ∨ 1048576 < 4 * (len1 + len2) ∨ 4096 < len1 ∨ 4096 < len2
  · refine (law6_out a1 len1 cap1 a2 len2 cap2 w h1 h2 hout).mono ?_
    rintro e w' ⟨rfl, rfl⟩
    exact ⟨rfl, Upto.refl _ _⟩
  · by_cases h0 : len1 = 0 ∨ len2 = 0
    · exact law6_none a1 len1 cap1 z1 a2 len2 cap2 z2 w (by omega) (by omega) s1 s2 h0
    · obtain ⟨b1, o1, rfl, hl1, c1⟩ := s1.some (by omega)
      obtain ⟨b2, o2, rfl, hl2, c2⟩ := s2.some (by omega)
      exact law6_main b1 o1 len1 cap1 z1 b2 o2 len2 cap2 z2 w (by omega) (by omega) hl1 hl2 c1 c2 r1 r2
end Go.Proofs.Qxb6600921a
