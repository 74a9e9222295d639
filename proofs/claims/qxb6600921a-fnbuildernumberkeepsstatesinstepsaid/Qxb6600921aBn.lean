/-
  treeBuilder.number, ONE CONTRACT A CASE, with the states beside the numbered pairs; ZZBuilderNumber, ZZBuilderStates.
-/
import Derived.Test.Qxb6600921aNumb
import Derived.Test.Qxb6600921aOnce
import Derived.Deep.AppendLies
namespace Go.Proofs.Qxb6600921a
open Go.RowKit
set_option linter.unusedVariables false

abbrev nilS : Value := .slice none 0 0
/-- The builder's cells as the number method sees them. -/
def nbl (vp : Value) (pn : Int) (vt : Value) : List Value := bl (.slice none 0 0) (.slice none 0 0) 0 vp pn vt

/-- A builder: its numbered pairs, and as many states. -/
structure BS (w : World) (base B : Nat) (vp vt : Value) (So : Option Nat) (ts : List Tab.NP) (ss : List (Int × Int)) : Prop where
  p : PN w B 9 (nbl vp ss.length vt) 72 So ts ss
  s : ∃ xs, w.ownsRow base 81 3 vt ss.length xs
  d : ∀ S g, So = some S → vt.ownBlock = some g → S ≠ g
  b : ∀ g, vt.ownBlock = some g → g ≠ B

theorem info81 : (Try.prog.info? 81).map (fun i => (i.zero, i.size, i.bytes)) = some (some (.agg #[.int .i32 0, .int .u32 0, .int .u32 0]), 3, 12) := by kernel_rfl

theorem Upto.ownsV {P : Nat → Prop} {a b : World} (h : Upto P a b) {base : Nat} {e : TypeId} {size n : Nat} {v : Value} {xs : List Value} (ho : a.ownsRow base e size v n xs) (hn : ∀ g, v.ownBlock = some g → ¬ P g) : b.ownsRow base e size v n xs := by
  obtain ⟨h1, h2⟩ := ho
  refine ⟨h1, ?_⟩
  rcases h2 with h2 | ⟨g', cap', cur, hv, hg, hh, r⟩
  · exact Or.inl h2
  · exact Or.inr ⟨g', cap', cur, hv, hg, by rw [h.block g' (lt_of_block hh) (hn g' (by rw [hv]; rfl))]; exact hh, r⟩

theorem PN.kept {P : Nat → Prop} {w w' : World} {B o : Nat} {cs : List Value} {t : TypeId} {So : Option Nat} {ts : List Tab.NP} {ss : List (Int × Int)} (h : PN w B o cs t So ts ss) (hu : Upto P w w') (hB : ¬ P B) (hS : ∀ S, So = some S → ¬ P S) : PN w' B o cs t So ts ss := by
  refine ⟨hu.blk h.b hB, h.n, ?_, h.perm, h.rng, h.nd⟩
  rcases h.tab with h1 | ⟨S, p, h1, h2, h3, h4, h5, h6, h7, h8, h9⟩
  · exact Or.inl h1
  · exact Or.inr ⟨S, p, h1, h2, h3, h4, h5, h6, h7, h8, hu.blk h9 (hS S h1)⟩
theorem PN.states {w : World} {B : Nat} {vp vt : Value} {pn : Int} {So : Option Nat} {ts : List Tab.NP} {ss : List (Int × Int)} (h : PN w B 9 (nbl vp pn vt) 72 So ts ss) (v : Value) : PN (w.setCell ⟨B, 11, none⟩ v) B 9 (nbl vp pn v) 72 So ts ss := by
  refine ⟨h.b.set 11 v, h.n, ?_, h.perm, h.rng, h.nd⟩
  rcases h.tab with h1 | ⟨S, p, h1, h2, h3, h4, h5, h6, h7, h8, h9⟩
  · exact Or.inl h1
  · exact Or.inr ⟨S, p, h1, h2, h3, h4, h5, h6, h7, h8, h9.other (Ne.symm h2) _⟩
theorem PN.slt {w : World} {B o : Nat} {cs : List Value} {t : TypeId} {So : Option Nat} {ts : List Tab.NP} {ss : List (Int × Int)} (h : PN w B o cs t So ts ss) {S : Nat} (hS : So = some S) : S < w.heap.size ∧ B ≠ S := by
  rcases h.tab with ⟨h1, _⟩ | ⟨S', p, h1, h2, h3, h4, h5, h6, h7, h8, h9⟩
  · rw [h1] at hS; cases hS
  · rw [h1] at hS; cases hS; exact ⟨h9.lt, h2⟩

set_option maxHeartbeats 400000 in
theorem bnum_seen (base B : Nat) (vp vt : Value) (So : Option Nat) (ts : List Tab.NP) (ss : List (Int × Int)) (a b F : Int) (w : World) (hF : Hid (fp ss (a, b) = F)) (h : BS w base B vp vt So ts ss) (hr : R32 (a, b)) (hss : ss.length ≤ 5000) (hm : (a, b) ∈ ss) :
    Calls Try.prog 37 #[.pointer (some ⟨B, 0, none⟩), .int .i32 a, .int .i32 b] w fun e w' => e = .returned (.int .i32 F) ∧ w = w' := by
  have H : Hid (Calls Try.prog 36 #[.pointer (some ⟨B, 9, none⟩), .int .i32 a, .int .i32 b] w fun e w' => e = .returned (.tuple #[.int .i32 F, .bool false]) ∧ w = w') := by
    have := num_seen B 9 (nbl vp ss.length vt) 72 So ts ss a b w h.p hr hss hm
    rw [hF.out] at this
    exact this
  clear h hr hF hm
  go_enter Try.func37, Try.ntmps37
  go_wp2_with (go_at_call 36; refine H.out.mono ?_; rintro e w' ⟨rfl, rfl⟩)
  go_ret
  exact ⟨rfl, rfl⟩

/-- What a new pair leaves of the builder. -/
def NewB (w w' : World) (base B : Nat) (vt : Value) (So : Option Nat) (ss : List (Int × Int)) : Prop :=
  ∃ vp' vt' So' ts', BS w' base B vp' vt' So' ts' ss ∧ Upto (fun k => k = B ∨ So = some k ∨ vt.ownBlock = some k) w w' ∧ (So' = So ∨ ∃ S, So' = some S ∧ w.heap.size ≤ S) ∧
    (∃ g cap, vt' = .slice (some ⟨g, 0, none⟩) ss.length cap ∧ (vt.ownBlock = some g ∨ w.heap.size ≤ g))

set_option maxRecDepth 100000 in
set_option maxHeartbeats 1000000 in
theorem bnum_fresh (base B : Nat) (vp vt : Value) (So : Option Nat) (ts : List Tab.NP) (ss : List (Int × Int)) (a b : Int) (n : Nat) (w : World) (hn : Hid (ss.length = n)) (h : BS w base B vp vt So ts ss) (hr : R32 (a, b)) (hss : n ≤ 5000) (hm : (a, b) ∉ ss) (hbase : base ≤ w.heap.size) :
    Calls Try.prog 37 #[.pointer (some ⟨B, 0, none⟩), .int .i32 a, .int .i32 b] w fun e w' => e = .returned (.int .i32 n) ∧ NewB w w' base B vt So (ss ++ [(a, b)]) := by
  have H : Hid (Calls Try.prog 36 #[.pointer (some ⟨B, 9, none⟩), .int .i32 a, .int .i32 b] w fun e w' => e = .returned (.tuple #[.int .i32 n, .bool true]) ∧
      Hid (∃ vs So' ts', PN w' B 9 (((nbl vp ss.length vt).set 9 vs).set (9 + 1) (.int .i32 (ss.length + 1))) 72 So' ts' (ss ++ [(a, b)]) ∧ Upto (fun k => k = B ∨ So = some k) w w' ∧ (So' = So ∨ ∃ S, So' = some S ∧ w.heap.size ≤ S))) := by
    have := num_fresh B 9 (nbl vp ss.length vt) 72 So ts ss a b w h.p hr (by rw [hn.out]; exact hss) hm
    rw [hn.out] at this ⊢
    exact this
  have HB : Hid (BS w base B vp vt So ts ss) := h
  clear h hr hm
  obtain ⟨i81, hi81, hz0, hz1, hz2⟩ := info_parts info81
  have HI : Hid (Try.prog.info? 81 = some i81) := hi81
  have HZ0 : Hid (i81.zero = some (.agg #[.int .i32 0, .int .u32 0, .int .u32 0])) := hz0
  have HZ1 : Hid (i81.size = 3) := hz1
  have HZ2 : Hid (i81.bytes = 12) := hz2
  clear hi81 hz0 hz1 hz2
  go_enter Try.func37, Try.ntmps37
  go_wp2_with (fail)
  refine H.out.mono ?_
  rintro e w1 ⟨rfl, HN⟩
  obtain ⟨vs, So', ts', hpn, hu, hso⟩ := HN.out
  have HP1 : Hid (PN w1 B 9 (nbl vs (ss.length + 1) vt) 72 So' ts' (ss ++ [(a, b)])) := hpn
  obtain ⟨xs, hxs⟩ := HB.out.s
  have HU : Hid (Upto (fun k => k = B ∨ So = some k) w w1) := hu
  have HSo : Hid (So' = So ∨ ∃ S, So' = some S ∧ w.heap.size ≤ S) := hso
  have HX : Hid (w1.ownsRow base 81 3 vt n xs) := by
    have := hu.ownsV hxs (fun g hg e => by
      rcases e with e | e
      · exact HB.out.b g hg e
      · exact HB.out.d g g e hg rfl)
    rw [hn.out] at this
    exact this
  have hsz : w.heap.size ≤ w1.heap.size := hu.size
  clear H HN hpn hu hso hxs
  have c11 : w1.cell? ⟨B, 11, none⟩ = some vt := HP1.out.b.cell rfl
  have f11 := HP1.out.b.frozen 11
  have hBl : B < w1.heap.size := HP1.out.b.lt
  go_wp2_with (first | (at_builtin; refine wpList_append_lies _ rfl (.tmp 23) (.tmp 25) 64 rfl base 81 i81 _ 3 12 Try.underlying64 HI.out HZ0.out HZ1.out HZ2.out rfl (by omega) vt n xs rfl (HX.out.alloc _) ⟨w1.heap.size, 0, none⟩ 1 1 [.int .i32 0, .int .u32 0, .int .u32 0] rfl rfl (World.news_of_block (heap_alloc_new _ _)) (by simp [Value.oneCell']) (by omega) (by unfold maxLen; omega) (by omega) (by simp; omega) (w1.heap.size + 1) (by simp) ?_; intro g cap w2 hown hgrow hat hlt; have HD2 : Hid (Blk w2 B (nbl vs (ss.length + 1) vt) 72) := (Upto.ofGrown hgrow).blk (HP1.out.b.alloc _) (fun e => HB.out.b B e rfl); have q0 : w2.cell? ⟨B, 11, none⟩ = some vt := HD2.out.cell rfl; have q1 := HD2.out.frozen 11))
  go_ret
  refine ⟨rfl, ?_⟩
  have len' : (ss ++ [(a, b)]).length = n + 1 := by rw [List.length_append, hn.out]; rfl
  have hvl : ∀ g0, vt.ownBlock = some g0 → g0 < w.heap.size := fun g0 e => by obtain ⟨ys, hy⟩ := HB.out.s; exact (hy.lt g0 e).2
  have hu2 : Upto (fun k => vt.ownBlock = some k) w1 w2 := ((Upto.refl _ w1).alloc _).trans ((Upto.ofGrown hgrow).mono (fun k _ e => e))
  have hSd : ∀ S, So' = some S → ¬ vt.ownBlock = some S := by
    intro S hS e
    rcases HSo.out with h1 | ⟨S2, h1, h2⟩
    · exact HB.out.d S S (h1 ▸ hS) e rfl
    · rw [h1] at hS; cases hS
      have := hvl _ e; omega
  have hp2 := (HP1.out.kept hu2 (fun e => HB.out.b B e rfl) hSd).states (.slice (some ⟨g, 0, none⟩) (n + 1) cap)
  have hgB : g ≠ B := by
    rcases hat with e | e
    · exact HB.out.b g e
    · omega
  refine ⟨vs, .slice (some ⟨g, 0, none⟩) (n + 1) cap, So', ts', ⟨?_, ?_, ?_, ?_⟩, ?_, HSo.out, g, cap, by rw [len'], ?_⟩
  · rw [len']
    rw [hn.out] at hp2
    exact hp2
  · rw [len']
    exact ⟨_, ((Upto.refl (fun k => k = B) w2).setCell (p := ⟨B, 11, none⟩) (fun _ => rfl) _).owns hown hgB⟩
  · intro S g' hS hg' e
    have hg2 : g' = g := by simpa [Value.ownBlock] using hg'.symm
    rcases hat with h1 | h1
    · exact hSd S hS (by rw [e, hg2]; exact h1)
    · have := (HP1.out.slt hS).1; omega
  · intro g' hg' e
    have hg2 : g' = g := by simpa [Value.ownBlock] using hg'.symm
    exact hgB (hg2.symm.trans e)
  · exact ((HU.out.mono (R := fun k => k = B ∨ So = some k ∨ vt.ownBlock = some k) (fun k _ e => by rcases e with e | e; exact Or.inl e; exact Or.inr (Or.inl e))).trans (hu2.mono (R := fun k => k = B ∨ So = some k ∨ vt.ownBlock = some k) (fun k _ e => Or.inr (Or.inr e)))).setCell (p := ⟨B, 11, none⟩) (fun _ => Or.inl rfl) _
  · rcases hat with e | e
    · exact Or.inl e
    · right; omega

theorem zzBNum {R : Int → World → Prop} (a : Addr) (l r : Int) (w : World) (h : Calls Try.prog 37 #[.pointer (some a), .int .i32 l, .int .i32 r] w fun e w' => ∃ x, e = .returned (.int .i32 x) ∧ R x w') :
    Calls Try.prog 27 #[.pointer (some a), .int .i32 l, .int .i32 r] w fun e w' => ∃ x, e = .returned (.int .i32 x) ∧ R x w' := by
  have H : Hid (Calls Try.prog 37 #[.pointer (some a), .int .i32 l, .int .i32 r] w fun e w' => ∃ x, e = .returned (.int .i32 x) ∧ R x w') := h
  clear h
  go_enter Try.func27, Try.ntmps27
  go_wp2_with (go_at_call 37; refine H.out.mono ?_; rintro e w' ⟨x, rfl, hR⟩)
  go_ret
  exact ⟨_, rfl, hR⟩

theorem zzStates (B n c : Nat) (ao : Option Addr) (vp : Value) (pn : Int) (w : World) (hB : Blk w B (nbl vp pn (.slice ao n c)) 72) :
    Calls Try.prog 28 #[.pointer (some ⟨B, 0, none⟩)] w fun e w' => e = .returned (.int .i64 n) ∧ w = w' := by
  have c11 : w.cell? ⟨B, 11, none⟩ = some (.slice ao n c) := hB.cell rfl
  go_enter Try.func28, Try.ntmps28
  go_wp2
  go_ret
  exact ⟨rfl, rfl⟩

theorem bnum_seen27 (base B : Nat) (vp vt : Value) (So : Option Nat) (ts : List Tab.NP) (ss : List (Int × Int)) (a b F : Int) (w : World) (hF : Hid (fp ss (a, b) = F)) (h : BS w base B vp vt So ts ss) (hr : R32 (a, b)) (hss : ss.length ≤ 5000) (hm : (a, b) ∈ ss) :
    Calls Try.prog 27 #[.pointer (some ⟨B, 0, none⟩), .int .i32 a, .int .i32 b] w fun e w' => e = .returned (.int .i32 F) ∧ w = w' := by
  have h2 := zzBNum (R := fun x w' => x = F ∧ w = w') ⟨B, 0, none⟩ a b w ((bnum_seen base B vp vt So ts ss a b F w hF h hr hss hm).mono (fun e w' h => ⟨_, h.1, rfl, h.2⟩))
  refine h2.mono ?_
  rintro e w' ⟨x, rfl, rfl, rfl⟩
  exact ⟨rfl, rfl⟩
theorem bnum_fresh27 (base B : Nat) (vp vt : Value) (So : Option Nat) (ts : List Tab.NP) (ss : List (Int × Int)) (a b : Int) (n : Nat) (w : World) (hn : Hid (ss.length = n)) (h : BS w base B vp vt So ts ss) (hr : R32 (a, b)) (hss : n ≤ 5000) (hm : (a, b) ∉ ss) (hbase : base ≤ w.heap.size) :
    Calls Try.prog 27 #[.pointer (some ⟨B, 0, none⟩), .int .i32 a, .int .i32 b] w fun e w' => e = .returned (.int .i32 n) ∧ NewB w w' base B vt So (ss ++ [(a, b)]) := by
  have h2 := zzBNum (R := fun x w' => x = (n : Int) ∧ NewB w w' base B vt So (ss ++ [(a, b)])) ⟨B, 0, none⟩ a b w ((bnum_fresh base B vp vt So ts ss a b n w hn h hr hss hm hbase).mono (fun e w' h => ⟨_, h.1, rfl, h.2⟩))
  refine h2.mono ?_
  rintro e w' ⟨x, rfl, rfl, hc⟩
  exact ⟨rfl, hc⟩
end Go.Proofs.Qxb6600921a
