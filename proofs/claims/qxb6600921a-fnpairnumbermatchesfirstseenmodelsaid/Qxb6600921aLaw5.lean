/-
  FnPairNumberMatchesFirstSeenModel: the walk of the law.
-/
import Derived.Test.Qxb6600921aNumb
import Derived.Test.Qxb6600921aSrc
namespace Go.Proofs.Qxb6600921a
open Go.RowKit
set_option linter.unusedVariables false

theorem bytes20 (a1 : Option Addr) (len1 cap1 : Nat) (a2 : Option Addr) (len2 cap2 : Nat) (w : World) (h1 : len1 ≤ maxLen) (h2 : len2 ≤ maxLen) (b : Bool) (hb : Hid (decide (len1 + len2 ≤ 1048576) = b)) :
    Calls Try.prog 20 #[.slice a1 len1 cap1, .slice a2 len2 cap2] w fun e w' => e = .returned (.bool b) ∧ w = w' := by
  have hb' := hb.out
  clear hb
  unfold maxLen at h1 h2
  by_cases c1 : len1 + len2 ≤ 1048576
  · have : b = true := by simpa [c1] using hb'.symm
    subst this
    clear hb'
    go_enter Try.func20, Try.ntmps20
    go_wp2
    go_ret
    exact ⟨rfl, rfl⟩
  · have : b = false := by simpa [c1] using hb'.symm
    subst this
    clear hb'
    by_cases c2 : len1 ≤ 1048576
    · by_cases c3 : len2 ≤ 1048576
      all_goals
        go_enter Try.func20, Try.ntmps20
        go_wp2
        go_ret
        exact ⟨rfl, rfl⟩
    · go_enter Try.func20, Try.ntmps20
      go_wp2
      go_ret
      exact ⟨rfl, rfl⟩

theorem newPN (w : World) :
    Calls Try.prog 21 #[] w fun e w' => e = .returned (.pointer (some ⟨w.heap.size, 0, none⟩)) ∧ Upto (fun _ => False) w w' ∧ Blk w' w.heap.size [.slice none 0 0, .int .i32 0] 57 ∧ w'.heap.size = w.heap.size + 1 := by
  go_enter Try.func21, Try.ntmps21
  go_wp2
  go_ret
  exact ⟨rfl, (Upto.refl _ _).alloc _, Blk.new w [.slice none 0 0, .int .i32 0] 57, by simp⟩

theorem zzNum {R : Int → Bool → World → Prop} (a : Addr) (l r : Int) (w : World) (h : Calls Try.prog 36 #[.pointer (some a), .int .i32 l, .int .i32 r] w fun e w' => ∃ x b, e = .returned (.tuple #[.int .i32 x, .bool b]) ∧ R x b w') :
    Calls Try.prog 23 #[.pointer (some a), .int .i32 l, .int .i32 r] w fun e w' => ∃ x b, e = .returned (.tuple #[.int .i32 x, .bool b]) ∧ R x b w' := by
  have H : Hid (Calls Try.prog 36 #[.pointer (some a), .int .i32 l, .int .i32 r] w fun e w' => ∃ x b, e = .returned (.tuple #[.int .i32 x, .bool b]) ∧ R x b w') := h
  clear h
  go_enter Try.func23, Try.ntmps23
  go_wp2_with (go_at_call 36; refine H.out.mono ?_; rintro e w' ⟨x, b, rfl, hR⟩)
  go_ret2
  exact ⟨_, _, rfl, hR⟩

theorem zzCount (X : Nat) (cs : List Value) (t : TypeId) (n : Nat) (w : World) (hB : Blk w X cs t) (hn : cs[1]? = some (.int .i32 n)) :
    Calls Try.prog 24 #[.pointer (some ⟨X, 0, none⟩)] w fun e w' => e = .returned (.int .i32 n) ∧ w = w' := by
  have c1 := hB.cell hn
  go_enter Try.func24, Try.ntmps24
  go_wp2
  go_ret
  exact ⟨rfl, rfl⟩

/-- Memory at each step. -/
structure LP (w wr : World) (gl gr X gL gR N : Nat) (zl zr : List Int) (cs : List Value) (ss : List (Int × Int)) (So : Option Nat) (ts : List Tab.NP) : Prop where
  up : Upto (fun k => w.heap.size ≤ k) w wr
  l : Ints wr gl .i32 21 zl
  r : Ints wr gr .i32 21 zr
  p : PN wr X 0 cs 57 So ts ss
  oL : wr.ownsRow w.heap.size 21 1 (.slice (some ⟨gL, 0, none⟩) ss.length N) ss.length ((ss.map Prod.fst).map (Value.int .i32))
  oR : wr.ownsRow w.heap.size 21 1 (.slice (some ⟨gR, 0, none⟩) ss.length N) ss.length ((ss.map Prod.snd).map (Value.int .i32))
  so : ∀ S, So = some S → gR < S
  sz : gR < wr.heap.size

structure Ord5 (w : World) (gl gr X gL gR : Nat) : Prop where
  h1 : w.heap.size ≤ gl
  h2 : gl < gr
  h3 : gr < X
  h5 : X < gL
  h6 : gL < gR

theorem PN.upto {P : Nat → Prop} {w w' : World} {B o : Nat} {cs : List Value} {t : TypeId} {So : Option Nat} {ts : List Tab.NP} {ss : List (Int × Int)} (h : PN w B o cs t So ts ss) (hu : Upto P w w') (hB : ¬ P B) (hS : ∀ S, So = some S → ¬ P S) : PN w' B o cs t So ts ss := by
  refine ⟨hu.blk h.b hB, h.n, ?_, h.perm, h.rng, h.nd⟩
  rcases h.tab with h1 | ⟨S, p, h1, h2, h3, h4, h5, h6, h7, h8, h9⟩
  · exact Or.inl h1
  · exact Or.inr ⟨S, p, h1, h2, h3, h4, h5, h6, h7, h8, hu.blk h9 (hS S h1)⟩

/-- What a new pair leaves. -/
def NewNum (w w' : World) (X : Nat) (cs : List Value) (ss : List (Int × Int)) (a b : Int) (So : Option Nat) : Prop :=
  ∃ vs So' ts', PN w' X 0 ((cs.set 0 vs).set (0 + 1) (.int .i32 (ss.length + 1))) 57 So' ts' (ss ++ [(a, b)]) ∧ Upto (fun k => k = X ∨ So = some k) w w' ∧ (So' = So ∨ ∃ S, So' = some S ∧ w.heap.size ≤ S)

theorem LP.fresh {w wr w2 w3 : World} {gl gr X gL gR N : Nat} {zl zr : List Int} {cs : List Value} {ss : List (Int × Int)} {So : Option Nat} {ts : List Tab.NP} {a b : Int} (h : LP w wr gl gr X gL gR N zl zr cs ss So ts) (o : Ord5 w gl gr X gL gR)
    (hu : Upto (fun k => k = gL ∨ k = gR) wr w2)
    (oL : w2.ownsRow w.heap.size 21 1 (.slice (some ⟨gL, 0, none⟩) (ss ++ [(a, b)]).length N) (ss ++ [(a, b)]).length (((ss ++ [(a, b)]).map Prod.fst).map (Value.int .i32)))
    (oR : w2.ownsRow w.heap.size 21 1 (.slice (some ⟨gR, 0, none⟩) (ss ++ [(a, b)]).length N) (ss ++ [(a, b)]).length (((ss ++ [(a, b)]).map Prod.snd).map (Value.int .i32)))
    (hc : NewNum w2 w3 X cs ss a b So) : ∃ cs' So' ts', LP w w3 gl gr X gL gR N zl zr cs' (ss ++ [(a, b)]) So' ts' := by
  obtain ⟨vs, So', ts', c1, c2, c3⟩ := hc
  have h1 := o.h1; have h2 := o.h2; have h3 := o.h3; have h5 := o.h5; have h6 := o.h6
  have n2 : ∀ k, k ≤ gR → k ≠ X → ¬ (k = X ∨ So = some k) := by
    intro k hk hkB e
    rcases e with e | e
    · exact hkB e
    · have := h.so k e; omega
  have a1 := hu.size
  have a2 := c2.size
  have a3 := h.sz
  refine ⟨_, So', ts', ⟨(h.up.trans (hu.mono (fun k _ e => by omega))).trans (c2.mono (fun k _ e => by rcases e with e | e; omega; have := h.so k e; omega)), c2.ints (hu.ints h.l (by omega)) (n2 _ (by omega) (by omega)), c2.ints (hu.ints h.r (by omega)) (n2 _ (by omega) (by omega)), c1, c2.owns oL (n2 _ (by omega) (by omega)), c2.owns oR (n2 _ (by omega) (by omega)), ?_, by omega⟩⟩
  intro S hS'
  rcases c3 with e | ⟨S2, e, hlt⟩
  · exact h.so S (e ▸ hS')
  · rw [e] at hS'
    cases hS'
    omega

theorem fst_snoc5 (ss : List (Int × Int)) (l r : Int) : ((ss ++ [(l, r)]).map Prod.fst).map (Value.int .i32) = (ss.map Prod.fst).map (Value.int .i32) ++ [.int .i32 l] := by simp
theorem snd_snoc5 (ss : List (Int × Int)) (l r : Int) : ((ss ++ [(l, r)]).map Prod.snd).map (Value.int .i32) = (ss.map Prod.snd).map (Value.int .i32) ++ [.int .i32 r] := by simp

theorem find_own (gA gB cA cB : Nat) (ss : List (Int × Int)) (a b F : Int) (w : World) (hF : Hid (fp ss (a, b) = F)) (hlen : ss.length ≤ 1048576)
    (oA : ∃ base, w.ownsRow base 21 1 (.slice (some ⟨gA, 0, none⟩) ss.length cA) ss.length ((ss.map Prod.fst).map (Value.int .i32)))
    (oB : ∃ base, w.ownsRow base 21 1 (.slice (some ⟨gB, 0, none⟩) ss.length cB) ss.length ((ss.map Prod.snd).map (Value.int .i32))) :
    Calls Try.prog 22 #[.slice (some ⟨gA, 0, none⟩) ss.length cA, .slice (some ⟨gB, 0, none⟩) ss.length cB, .int .i32 a, .int .i32 b] w fun e w' => e = .returned (.int .i32 F) ∧ w = w' := by
  obtain ⟨_, oA⟩ := oA
  obtain ⟨_, oB⟩ := oB
  have := findPair_any gA gB cA cB ss a b w ss.length rfl hlen (fun i hi => ?_) (fun i hi => ?_)
  · rw [hF.out] at this; exact this
  · rw [oA.cellAt i (by omega), List.getElem?_map, List.getD_eq_getElem?_getD, List.getElem?_eq_getElem (by simpa using hi)]; simp
  · rw [oB.cellAt i (by omega), List.getElem?_map, List.getD_eq_getElem?_getD, List.getElem?_eq_getElem (by simpa using hi)]; simp

theorem num_seen5 (X : Nat) (cs : List Value) (So : Option Nat) (ts : List Tab.NP) (ss : List (Int × Int)) (a b F : Int) (w : World) (hF : Hid (fp ss (a, b) = F)) (h : PN w X 0 cs 57 So ts ss) (hr : R32 (a, b)) (hss : ss.length ≤ 5000) (hm : (a, b) ∈ ss) :
    Calls Try.prog 23 #[.pointer (some ⟨X, 0, none⟩), .int .i32 a, .int .i32 b] w fun e w' => e = .returned (.tuple #[.int .i32 F, .bool false]) ∧ w = w' := by
  have h2 := zzNum (R := fun x b w' => x = F ∧ b = false ∧ w = w') ⟨X, 0, none⟩ a b w ((num_seen X 0 cs 57 So ts ss a b w h hr hss hm).mono (fun e w' h => ⟨_, _, h.1, hF.out, rfl, h.2⟩))
  refine h2.mono ?_
  rintro e w' ⟨x, b, rfl, rfl, rfl, rfl⟩
  exact ⟨rfl, rfl⟩
theorem num_fresh5 (X : Nat) (cs : List Value) (So : Option Nat) (ts : List Tab.NP) (ss : List (Int × Int)) (a b : Int) (n : Nat) (w : World) (hn : Hid (ss.length = n)) (h : PN w X 0 cs 57 So ts ss) (hr : R32 (a, b)) (hss : ss.length ≤ 5000) (hm : (a, b) ∉ ss) :
    Calls Try.prog 23 #[.pointer (some ⟨X, 0, none⟩), .int .i32 a, .int .i32 b] w fun e w' => e = .returned (.tuple #[.int .i32 n, .bool true]) ∧ NewNum w w' X cs ss a b So := by
  have h2 := zzNum (R := fun x b' w' => x = (n : Int) ∧ b' = true ∧ NewNum w w' X cs ss a b So) ⟨X, 0, none⟩ a b w ((num_fresh X 0 cs 57 So ts ss a b w h hr hss hm).mono (fun e w' h => ⟨_, _, h.1, by rw [hn.out], rfl, h.2⟩))
  refine h2.mono ?_
  rintro e w' ⟨x, b, rfl, rfl, rfl, hc⟩
  exact ⟨rfl, hc⟩

set_option maxRecDepth 100000 in
/-- The ways on which the law says true at once. -/
theorem law5_out (a1 : Option Addr) (len1 cap1 : Nat) (a2 : Option Addr) (len2 cap2 : Nat) (w : World) (h1 : len1 ≤ maxLen) (h2 : len2 ≤ maxLen)
    (hout : 1048576 < len1 + len2 ∨ 1048576 < 4 * (len1 + len2) ∨ 4096 < len1 ∨ 4096 < len2) :
    Calls Try.prog 5 #[.slice a1 len1 cap1, .slice a2 len2 cap2] w fun e w' => e = .returned (.bool true) ∧ w = w' := by
  by_cases c1 : len1 + len2 ≤ 1048576
  · have hb : Hid (decide (len1 + len2 ≤ 1048576) = true) := decide_eq_true c1
    by_cases c2 : 1048576 < 4 * (len1 + len2)
    · go_enter Try.func5, Try.ntmps5
      go_wp2_with (go_at_call 20; refine (bytes20 _ _ _ _ _ _ _ h1 h2 true hb).mono ?_; rintro e w' ⟨rfl, rfl⟩)
      go_ret
      exact ⟨rfl, rfl⟩
    · by_cases c3 : 4096 < len1
      · go_enter Try.func5, Try.ntmps5
        go_wp2_with (go_at_call 20; refine (bytes20 _ _ _ _ _ _ _ h1 h2 true hb).mono ?_; rintro e w' ⟨rfl, rfl⟩)
        go_ret
        exact ⟨rfl, rfl⟩
      · have c4 : 4096 < len2 := by omega
        clear hout
        go_enter Try.func5, Try.ntmps5
        go_wp2_with (go_at_call 20; refine (bytes20 _ _ _ _ _ _ _ h1 h2 true hb).mono ?_; rintro e w' ⟨rfl, rfl⟩)
        go_ret
        exact ⟨rfl, rfl⟩
  · have hb : Hid (decide (len1 + len2 ≤ 1048576) = false) := decide_eq_false c1
    go_enter Try.func5, Try.ntmps5
    go_wp2_with (go_at_call 20; refine (bytes20 _ _ _ _ _ _ _ h1 h2 false hb).mono ?_; rintro e w' ⟨rfl, rfl⟩)
    go_ret
    exact ⟨rfl, rfl⟩

set_option maxRecDepth 100000 in
set_option maxHeartbeats 1000000 in
theorem law5_main (b1 o1 len1 cap1 : Nat) (z1 : List Int) (b2 o2 len2 cap2 : Nat) (z2 : List Int) (w : World) (h1 : len1 ≤ 4096) (h2 : len2 ≤ 4096)
    (hl1 : len1 ≤ z1.length) (hl2 : len2 ≤ z2.length)
    (c1 : ∀ i, i < z1.length → w.cell? ⟨b1, o1 + i, none⟩ = some (.int .i32 (z1.getD i 0)))
    (c2 : ∀ i, i < z2.length → w.cell? ⟨b2, o2 + i, none⟩ = some (.int .i32 (z2.getD i 0)))
    (r1 : ∀ x ∈ z1, -2147483648 ≤ x ∧ x ≤ 2147483647) (r2 : ∀ x ∈ z2, -2147483648 ≤ x ∧ x ≤ 2147483647) :
    Calls Try.prog 5 #[.slice (some ⟨b1, o1, none⟩) len1 cap1, .slice (some ⟨b2, o2, none⟩) len2 cap2] w fun e w' => e = .returned (.bool true) ∧ Upto (fun k => w.heap.size ≤ k) w w' := by
  have hb : Hid (decide (len1 + len2 ≤ 1048576) = true) := decide_eq_true (by omega)
  have hm1 : len1 ≤ maxLen := by unfold maxLen; omega
  have hm2 : len2 ≤ maxLen := by unfold maxLen; omega
  have C1 : Hid (∀ i, i < z1.length → w.cell? ⟨b1, o1 + i, none⟩ = some (.int .i32 (z1.getD i 0))) := c1
  have C2 : Hid (∀ i, i < z2.length → w.cell? ⟨b2, o2 + i, none⟩ = some (.int .i32 (z2.getD i 0))) := c2
  have R1 : Hid (∀ x ∈ z1, -2147483648 ≤ x ∧ x ≤ 2147483647) := r1
  have R2 : Hid (∀ x ∈ z2, -2147483648 ≤ x ∧ x ≤ 2147483647) := r2
  clear c1 c2 r1 r2
  go_enter Try.func5, Try.ntmps5
  go_wp2_with (first | (go_at_call 20; refine (bytes20 _ _ _ _ _ _ _ hm1 hm2 true hb).mono ?_; rintro e w' ⟨rfl, rfl⟩))
  refine (clone_some b1 o1 len1 cap1 z1 w hl1 (by omega) C1.out).mono ?_
  rintro e w1 ⟨rfl, u1, i1, s1⟩
  have C2' : Hid (∀ i, i < z2.length → w1.cell? ⟨b2, o2 + i, none⟩ = some (.int .i32 (z2.getD i 0))) := by
    intro i hi
    have c0 := C2.out i hi
    rw [← c0]
    exact World.cell?_of_block (w := w) (u1.block b2 (block_lt_of_cell c0) (fun h => h))
  go_wp2_with (fail)
  refine (clone_some b2 o2 len2 cap2 z2 w1 hl2 (by omega) C2'.out).mono ?_
  rintro e w2 ⟨rfl, u2, i2, s2⟩
  go_upto_if 44 with (fail)
  go_cut [5] (fun v wc => ∃ N : Nat, v = .int .i64 N ∧ N ≤ len1 ∧ N ≤ len2 ∧ w2 = wc)
  case first =>
    by_cases hlt : len2 < len1
    · go_wp2
      go_meet
      case rel => exact ⟨len2, rfl, by omega, by omega, rfl⟩
    · go_wp2
      go_meet
      case rel => exact ⟨len1, rfl, by omega, by omega, rfl⟩
  case rest =>
    obtain ⟨N, rfl, hN1, hN2, rfl⟩ := hcut
    go_wp2_with (fail)
    refine (newPN _).mono ?_
    rintro e w4 ⟨rfl, u4, B4, s4⟩
    have hmk0 := make22_0 N (by omega)
    go_wp2_with (fail)
    obtain ⟨gl, Hgl⟩ : ∃ g, Hid (g = w.heap.size) := ⟨_, rfl⟩
    obtain ⟨gr, Hgr⟩ : ∃ g, Hid (g = w1.heap.size) := ⟨_, rfl⟩
    obtain ⟨X, HgX⟩ : ∃ g, Hid (g = w2.heap.size) := ⟨_, rfl⟩
    rw [← Hgl.out, ← Hgr.out, ← HgX.out]
    have ho : Ord5 w gl gr X (X + 1) (X + 1 + 1) := by
      have e1 := Hgl.out; have e2 := Hgr.out; have e3 := HgX.out
      exact ⟨by omega, by omega, by omega, by omega, by omega⟩
    have HL0 : Hid (LP w ((w4.alloc (Obj.cells (madeCells #[Value.int IntKind.i32 0] N) 21)).alloc (Obj.cells (madeCells #[Value.int IntKind.i32 0] N) 21)) gl gr X (X + 1) (X + 1 + 1) N (z1.take len1) (z2.take len2) [.slice none 0 0, .int .i32 0] [] none []) := by
      have e1 := Hgl.out; have e2 := Hgr.out; have e3 := HgX.out
      have s5 : (w4.alloc (Obj.cells (madeCells #[Value.int IntKind.i32 0] N) 21)).heap.size = w4.heap.size + 1 := by simp
      have m0 : ∀ {a b : World}, Upto (fun _ => False) a b → Upto (fun k => w.heap.size ≤ k) a b := fun h => h.mono (fun k _ h => absurd h (fun h => h))
      have i1' := u2.ints i1 (fun h => h)
      have i2' := i2
      rw [← e1] at i1'
      rw [← e2] at i2'
      rw [← e3] at B4
      refine ⟨?_, Blk.alloc (Blk.alloc (u4.ints i1' (fun h => h)) _) _, Blk.alloc (Blk.alloc (u4.ints i2' (fun h => h)) _) _, ⟨(B4.alloc _).alloc _, rfl, Or.inl ⟨rfl, rfl, rfl, rfl⟩, List.Perm.refl _, (fun q hq => by cases hq), List.nodup_nil⟩, ?_, ?_, (fun S hS => by cases hS), by simp; omega⟩
      · exact (((m0 u1).trans (m0 u2)).trans (m0 u4)).trans (((Upto.refl _ _).alloc _).alloc _)
      · have := World.ownsRow_made (base := w.heap.size) (e := 21) (size := 1) w4 (madeCells #[Value.int IntKind.i32 0] N) N (by omega) (by unfold maxLen; omega) (by rw [size_madeCells]; omega)
        rw [s4, ← e3] at this
        exact this.alloc _
      · have := World.ownsRow_made (base := w.heap.size) (e := 21) (size := 1) (w4.alloc (Obj.cells (madeCells #[Value.int IntKind.i32 0] N) 21)) (madeCells #[Value.int IntKind.i32 0] N) N (by omega) (by unfold maxLen; omega) (by rw [size_madeCells]; omega)
        rw [s5, s4, ← e3] at this
        exact this
    clear u1 i1 s1 u2 i2 s2 u4 B4 hmk0 s4 Hgl Hgr HgX C2'
    go_loopw [7, 8, 9] (fun vL vR i wr => ∃ k : Nat, ∃ ss : List (Int × Int), ∃ cs : List Value, ∃ So : Option Nat, ∃ ts : List Tab.NP, k ≤ N ∧ i = .int .i64 k ∧ vL = .slice (some ⟨X + 1, 0, none⟩) ss.length N ∧ vR = .slice (some ⟨X + 1 + 1, 0, none⟩) ss.length N ∧
      ss.length ≤ k ∧ Hid (LP w wr gl gr X (X + 1) (X + 1 + 1) N (z1.take len1) (z2.take len2) cs ss So ts)) (fun _ _ i _ => N - (intOf i).toNat)
    case atStart => exact ⟨0, [], _, none, [], Nat.zero_le _, rfl, rfl, rfl, Nat.le_refl _, HL0⟩
    case round =>
      clear HL0
      obtain ⟨k, ss, cs, So, ts, hk, rfl, rfl, rfl, hlen, HL⟩ := hrel
      by_cases hlt : k < N
      · have cl := HL.out.l.cell (i := k) (by simp; omega)
        have cr := HL.out.r.cell (i := k) (by simp; omega)
        have ha : (z1.take len1).getD k 0 ∈ z1 := List.mem_of_mem_take (Tab.mem_of_getD (by simp; omega))
        have hb' : (z2.take len2).getD k 0 ∈ z2 := List.mem_of_mem_take (Tab.mem_of_getD (by simp; omega))
        have ba := R1.out _ ha
        have bb := R2.out _ hb'
        generalize (z1.take len1).getD k 0 = a at cl ha ba
        generalize (z2.take len2).getD k 0 = b at cr hb' bb
        clear ha hb'
        have HR : Hid (R32 (a, b)) := ⟨ba.1, ba.2, bb.1, bb.2⟩
        by_cases hin : (a, b) ∈ ss
        · have HF : Hid (fp ss (a, b) = (ss.idxOf (a, b) : Int)) := by show fp ss (a, b) = _; unfold fp; rw [if_pos hin]
          generalize ss.idxOf (a, b) = f at HF
          have Hin : Hid ((a, b) ∈ ss) := hin
          clear hin
          go_wp2_with (first | (go_at_call 22; refine (find_own (X + 1) (X + 1 + 1) N N ss a b f _ HF (by omega) ⟨_, HL.out.oL⟩ ⟨_, HL.out.oR⟩).mono ?_; rintro e w' ⟨rfl, rfl⟩) | (go_at_call 23; refine (num_seen5 X cs So ts ss a b f _ HF HL.out.p HR.out (by omega) Hin.out).mono ?_; rintro e w' ⟨rfl, rfl⟩) | (go_at_call 24; refine (zzCount X cs 57 ss.length _ HL.out.p.b HL.out.p.n).mono ?_; rintro e w' ⟨rfl, rfl⟩))
          go_roundw
          case rel => exact ⟨k + 1, ss, cs, So, ts, by omega, by go_num, rfl, rfl, by omega, HL⟩
          case measure => simp [intOf]; omega
        · have HF : Hid (fp ss (a, b) = -1) := by show fp ss (a, b) = _; unfold fp; rw [if_neg hin]
          have Hin : Hid ((a, b) ∉ ss) := hin
          clear hin
          obtain ⟨i21, hi21, hz0, hz1, hz2⟩ := info_parts info21
          go_wp2_with (first | (go_at_call 22; refine (find_own (X + 1) (X + 1 + 1) N N ss a b (-1) _ HF (by omega) ⟨_, HL.out.oL⟩ ⟨_, HL.out.oR⟩).mono ?_; rintro e w' ⟨rfl, rfl⟩) | (at_builtin; refine wpList_append_fits _ rfl (.tmp 76) (.tmp 78) 22 rfl w.heap.size 21 i21 1 Try.underlying22 hi21 hz1 (X + 1) ss.length N ((ss.map Prod.fst).map (Value.int .i32)) rfl (HL.out.oL.alloc _) ⟨wr.heap.size, 0, none⟩ 1 1 [.int .i32 a] rfl rfl (cell_one_new _ _ _) (ints_oneCell .i32 [a]) (by omega) ?_; intro w5 ho5 hg5) | (at_builtin; refine wpList_append_fits _ rfl (.tmp 80) (.tmp 82) 22 rfl w.heap.size 21 i21 1 Try.underlying22 hi21 hz1 (X + 1 + 1) ss.length N ((ss.map Prod.snd).map (Value.int .i32)) rfl (((Upto.ofGrown hg5).owns (HL.out.oR.alloc _) (by simp)).alloc _) ⟨w5.heap.size, 0, none⟩ 1 1 [.int .i32 b] rfl rfl (cell_one_new _ _ _) (ints_oneCell .i32 [b]) (by omega) ?_; intro w6 ho6 hg6))
          have HU6 : Hid (Upto (fun k => k = X + 1 ∨ k = X + 1 + 1) wr w6) := by
            refine (((Upto.refl _ wr).alloc _).trans ((Upto.ofGrown hg5).mono (fun k _ e => ?_))).trans (((Upto.refl _ w5).alloc _).trans ((Upto.ofGrown hg6).mono (fun k _ e => ?_)))
            · cases e; exact Or.inl rfl
            · cases e; exact Or.inr rfl
          have HOL : Hid (w6.ownsRow w.heap.size 21 1 (.slice (some ⟨X + 1, 0, none⟩) (ss ++ [(a, b)]).length N) (ss ++ [(a, b)]).length (((ss ++ [(a, b)]).map Prod.fst).map (Value.int .i32))) := by
            show World.ownsRow _ _ _ _ _ _ _
            rw [fst_snoc5, List.length_append]
            exact (Upto.ofGrown hg6).owns (ho5.alloc _) (by simp)
          have HOR : Hid (w6.ownsRow w.heap.size 21 1 (.slice (some ⟨X + 1 + 1, 0, none⟩) (ss ++ [(a, b)]).length N) (ss ++ [(a, b)]).length (((ss ++ [(a, b)]).map Prod.snd).map (Value.int .i32))) := by
            show World.ownsRow _ _ _ _ _ _ _
            rw [snd_snoc5, List.length_append]
            exact ho6
          clear ho5 hg5 ho6 hg6 hi21 hz0 hz1 hz2
          refine (num_fresh5 X cs So ts ss a b ss.length w6 rfl (HL.out.p.upto HU6.out (by omega) (fun S e => by have := HL.out.so S e; omega)) HR.out (by omega) Hin.out).mono ?_
          rintro e w3 ⟨rfl, hc⟩
          obtain ⟨cs', So', ts', hL'⟩ := HL.out.fresh ho HU6.out HOL.out HOR.out hc
          have HL' : Hid (LP w w3 gl gr X (X + 1) (X + 1 + 1) N (z1.take len1) (z2.take len2) cs' (ss ++ [(a, b)]) So' ts') := hL'
          clear hc hL'
          have HN' : Hid (cs'[1]? = some (.int .i32 ((ss.length + 1 : Nat) : Int))) := by
            have := HL'.out.p.n
            rw [List.length_append] at this
            exact this
          go_wp2_with (first | (go_at_call 24; refine (zzCount X cs' 57 (ss.length + 1) _ HL'.out.p.b HN'.out).mono ?_; rintro e w' ⟨rfl, rfl⟩))
          go_roundw
          case rel => exact ⟨k + 1, ss ++ [(a, b)], cs', So', ts', by omega, by go_num, by simp, by simp, by simp; omega, HL'⟩
          case measure => simp [intOf]; omega
      · go_wp2
        go_ret
        exact ⟨rfl, HL.out.up⟩

set_option maxRecDepth 100000 in
set_option maxHeartbeats 1000000 in
/-- No pair at all. -/
theorem law5_none (a1 : Option Addr) (len1 cap1 : Nat) (z1 : List Int) (a2 : Option Addr) (len2 cap2 : Nat) (z2 : List Int) (w : World) (h1 : len1 ≤ 4096) (h2 : len2 ≤ 4096)
    (s1 : SrcOk w a1 len1 cap1 z1) (s2 : SrcOk w a2 len2 cap2 z2) (h0 : len1 = 0 ∨ len2 = 0) :
    Calls Try.prog 5 #[.slice a1 len1 cap1, .slice a2 len2 cap2] w fun e w' => e = .returned (.bool true) ∧ Upto (fun k => w.heap.size ≤ k) w w' := by
  have hb : Hid (decide (len1 + len2 ≤ 1048576) = true) := decide_eq_true (by omega)
  have hm1 : len1 ≤ maxLen := by unfold maxLen; omega
  have hm2 : len2 ≤ maxLen := by unfold maxLen; omega
  have H0 : Hid (len1 = 0 ∨ len2 = 0) := h0
  clear h0
  go_enter Try.func5, Try.ntmps5
  go_wp2_with (first | (go_at_call 20; refine (bytes20 _ _ _ _ _ _ _ hm1 hm2 true hb).mono ?_; rintro e w' ⟨rfl, rfl⟩))
  refine (clone_any a1 len1 cap1 z1 w (by omega) s1).mono ?_
  rintro e w1 ⟨c1, rfl, u1⟩
  go_wp2_with (fail)
  refine (clone_any a2 len2 cap2 z2 w1 (by omega) (s2.upto u1)).mono ?_
  rintro e w2 ⟨c2, rfl, u2⟩
  go_upto_if 44 with (fail)
  go_cut [5] (fun v wc => v = .int .i64 0 ∧ w2 = wc)
  case first =>
    by_cases hlt : len2 < len1
    · go_wp2
      go_meet
      case rel => have := H0.out; exact ⟨by go_num, rfl⟩
    · go_wp2
      go_meet
      case rel => have := H0.out; exact ⟨by go_num, rfl⟩
  case rest =>
    obtain ⟨rfl, rfl⟩ := hcut
    go_wp2_with (fail)
    refine (newPN _).mono ?_
    rintro e w4 ⟨rfl, u4, B4, s4⟩
    have hmk0 := make22_00
    have HU4 : Hid (Upto (fun k => w.heap.size ≤ k) w ((w4.alloc (Obj.cells (madeCells #[Value.int IntKind.i32 0] 0) 21)).alloc (Obj.cells (madeCells #[Value.int IntKind.i32 0] 0) 21))) := by
      have m0 : ∀ {a b : World}, Upto (fun _ => False) a b → Upto (fun k => w.heap.size ≤ k) a b := fun h => h.mono (fun k _ h => absurd h (fun h => h))
      exact (((m0 u1).trans (m0 u2)).trans (m0 u4)).trans (((Upto.refl _ _).alloc _).alloc _)
    clear B4 s4
    go_wp2_with (fail)
    go_loopw [9] (fun i wr => i = .int .i64 0 ∧ Hid (Upto (fun k => w.heap.size ≤ k) w wr)) (fun _ _ => 0)
    case atStart => exact ⟨rfl, HU4⟩
    case round =>
      obtain ⟨rfl, HX⟩ := hrel
      go_wp2
      go_ret
      exact ⟨rfl, HX.out⟩

theorem law5 (a1 : Option Addr) (len1 cap1 : Nat) (z1 : List Int) (a2 : Option Addr) (len2 cap2 : Nat) (z2 : List Int) (w : World)
    (h1 : len1 ≤ maxLen) (h2 : len2 ≤ maxLen) (s1 : SrcOk w a1 len1 cap1 z1) (s2 : SrcOk w a2 len2 cap2 z2)
    (r1 : ∀ x ∈ z1, -2147483648 ≤ x ∧ x ≤ 2147483647) (r2 : ∀ x ∈ z2, -2147483648 ≤ x ∧ x ≤ 2147483647) :
    Calls Try.prog 5 #[.slice a1 len1 cap1, .slice a2 len2 cap2] w fun e w' => e = .returned (.bool true) ∧ Upto (fun k => w.heap.size ≤ k) w w' := by
  by_cases hout : 1048576 < len1 + len2 ∨ 1048576 < 4 * (len1 + len2) ∨ 4096 < len1 ∨ 4096 < len2
  · refine (law5_out a1 len1 cap1 a2 len2 cap2 w h1 h2 hout).mono ?_
    rintro e w' ⟨rfl, rfl⟩
    exact ⟨rfl, Upto.refl _ _⟩
  · by_cases h0 : len1 = 0 ∨ len2 = 0
    · exact law5_none a1 len1 cap1 z1 a2 len2 cap2 z2 w (by omega) (by omega) s1 s2 h0
    · obtain ⟨b1, o1, rfl, hl1, c1⟩ := s1.some (by omega)
      obtain ⟨b2, o2, rfl, hl2, c2⟩ := s2.some (by omega)
      exact law5_main b1 o1 len1 cap1 z1 b2 o2 len2 cap2 z2 w (by omega) (by omega) hl1 hl2 c1 c2 r1 r2
end Go.Proofs.Qxb6600921a
