/-
  WHAT HOLDS AT EACH STEP OF A SCRIPT OF JOINS AND COUNTS (both countOnce laws), AND HOW EACH KIND OF STEP HANDS IT ON. No walk.
-/
import Derived.Test.Qxb6600921aOnce
namespace Go.Proofs.Qxb6600921a
open Go.RowKit
set_option linter.unusedVariables false

theorem pk_inj {a b c d : Int} (ha : 0 ≤ a ∧ a ≤ 65536) (hb : 0 ≤ b ∧ b ≤ 65536) (hc : 0 ≤ c ∧ c ≤ 65536) (hd : 0 ≤ d ∧ d ≤ 65536) (h : pk a b = pk c d) : a = c ∧ b = d := by
  unfold pk at h; omega

/-- The plain part: the pairs seen, the trees' joins, the table's keys. -/
structure SI (T k : Nat) (into : List Int) (ss : List (Int × Int)) (sl : List Int) : Prop where
  hT : into.length = T
  hsl : sl.length ≤ 65536
  nk : (Tab.keys sl).Nodup
  kin : ∀ x ∈ Tab.keys sl, ∃ q ∈ ss, x = pk q.1 q.2
  all : ∀ q ∈ ss, liveB into (pk q.1 q.2) = true → pk q.1 q.2 ∈ Tab.keys sl
  rng : ∀ q ∈ ss, 0 ≤ q.1 ∧ q.1 < T ∧ 0 ≤ q.2 ∧ q.2 < T ∧ q.1 ≠ q.2
  nd : ss.Nodup
  len : ss.length ≤ k

theorem SI.bd {T k : Nat} {into : List Int} {ss : List (Int × Int)} {sl : List Int} (h : SI T k into ss sl) (hT2 : T ≤ 65536) : ∀ x ∈ sl, x ≠ 0 → 0 ≤ x ∧ x / 4294967296 < T ∧ x % 4294967296 < T := by
  intro x hx hx0
  obtain ⟨q, hq, rfl⟩ := h.kin x (Tab.mem_keys.2 ⟨hx, hx0⟩)
  have := h.rng q hq
  have h2 := pk_div (l := q.1) (r := q.2) (by omega) (by omega)
  have := pk_bd q.1 q.2
  omega
theorem SI.keys_le {T k : Nat} {into : List Int} {ss : List (Int × Int)} {sl : List Int} (h : SI T k into ss sl) : (Tab.keys sl).length ≤ ss.length := by
  have := Tab.length_le_of_nodup (Tab.keys sl) (ss.map (fun q => pk q.1 q.2)) h.nk (fun x hx => by
    obtain ⟨q, hq, e⟩ := h.kin x hx
    exact List.mem_map.2 ⟨q, hq, e.symm⟩)
  simpa using this
theorem SI.more {T k : Nat} {into : List Int} {ss : List (Int × Int)} {sl : List Int} (h : SI T k into ss sl) : SI T (k + 1) into ss sl :=
  ⟨h.hT, h.hsl, h.nk, h.kin, h.all, h.rng, h.nd, by have := h.len; omega⟩

theorem live_of_set {into : List Int} {t : Nat} {v x : Int} (hv : 0 ≤ v) (h : liveB (into.set t v) x = true) : liveB into x = true := by
  unfold liveB at h ⊢
  have e : ∀ i : Nat, (into.set t v).getD i 0 < 0 → into.getD i 0 < 0 := by
    intro i hi
    rw [List.getD_eq_getElem?_getD, List.getElem?_set] at hi
    split at hi
    · split at hi
      · simp at hi; omega
      · simp at hi
    · rw [List.getD_eq_getElem?_getD]; exact hi
  simp only [Bool.and_eq_true, decide_eq_true_eq] at h ⊢
  exact ⟨h.1, e _ h.2.1, e _ h.2.2⟩
theorem SI.join {T k : Nat} {into : List Int} {ss : List (Int × Int)} {sl : List Int} (h : SI T k into ss sl) (t : Nat) (v : Int) (hv : 0 ≤ v) : SI T (k + 1) (into.set t v) ss sl :=
  ⟨by rw [List.length_set]; exact h.hT, h.hsl, h.nk, h.kin, fun q hq hl => h.all q hq (live_of_set hv hl), h.rng, h.nd, by have := h.len; omega⟩

/-- Is the pair there already? As the model says. -/
theorem SI.there {T k : Nat} {into : List Int} {ss : List (Int × Int)} {sl : List Int} (h : SI T k into ss sl) (hT2 : T ≤ 65536) {l r : Int} (hl : 0 ≤ l ∧ l < T) (hr : 0 ≤ r ∧ r < T) (hlv : liveB into (pk l r) = true) :
    pk l r ∈ Tab.keys sl ↔ (l, r) ∈ ss := by
  constructor
  · intro hk
    obtain ⟨q, hq, e⟩ := h.kin _ hk
    have := h.rng q hq
    have := pk_inj (by omega) (by omega) (by omega) (by omega) e
    have e2 : (l, r) = q := Prod.ext this.1 this.2
    rw [e2]; exact hq
  · intro hs
    exact h.all (l, r) hs hlv

theorem SI.count {T k : Nat} {into : List Int} {ss ss' : List (Int × Int)} {sl sl' : List Int} (h : SI T k into ss sl) (hk : k ≤ 4096) {l r : Int} (hl : 0 ≤ l ∧ l < T) (hr : 0 ≤ r ∧ r < T) (hlr : l ≠ r)
    (hm : (l, r) ∈ ss') (hs : ∀ q, q ∈ ss' ↔ q ∈ ss ∨ q = (l, r)) (hnd : ss'.Nodup) (hlen : ss'.length ≤ k + 1)
    (nk : (Tab.keys sl').Nodup) (kp : pk l r ∈ Tab.keys sl') (ksub : ∀ x ∈ Tab.keys sl', x ∈ Tab.keys sl ∨ x = pk l r) (klive : ∀ x ∈ Tab.keys sl, liveB into x = true → x ∈ Tab.keys sl')
    (ksz : sl'.length ≤ sl.length ∨ sl'.length ≤ 64 ∨ sl'.length < 8 * ((Tab.keys sl).length + 1)) : SI T (k + 1) into ss' sl' := by
  refine ⟨h.hT, ?_, nk, ?_, ?_, ?_, hnd, hlen⟩
  · have h1 := h.hsl; have h2 := h.keys_le; have h3 := h.len; omega
  · intro x hx
    rcases ksub x hx with h1 | h1
    · obtain ⟨q, hq, e⟩ := h.kin x h1
      exact ⟨q, (hs q).2 (Or.inl hq), e⟩
    · exact ⟨(l, r), hm, h1⟩
  · intro q hq hlv
    rcases (hs q).1 hq with h1 | h1
    · exact klive _ (h.all q h1 hlv) hlv
    · rw [h1]; exact kp
  · intro q hq
    rcases (hs q).1 hq with h1 | h1
    · exact h.rng q h1
    · rw [h1]; exact ⟨hl.1, hl.2, hr.1, hr.2, hlr⟩

/-- A table that is there has no key twice. -/
theorem CT.nodup {w : World} {B : Nat} {vi vp : Value} {pn : Int} {vt : Value} {So : Option Nat} {sl : List Int} (h : CT w B vi vp pn vt So sl) : (Tab.keys sl).Nodup := by
  rcases h with ⟨_, rfl, _⟩ | ⟨S, p, _, _, _, _, ok, _⟩
  · simp [Tab.keys]
  · exact ok.nodup
theorem CT.upto {P : Nat → Prop} {w w' : World} {B : Nat} {vi vp : Value} {pn : Int} {vt : Value} {So : Option Nat} {sl : List Int} (h : CT w B vi vp pn vt So sl) (hu : Upto P w w') (hB : ¬ P B) (hS : ∀ S, So = some S → ¬ P S) : CT w' B vi vp pn vt So sl := by
  rcases h with ⟨h1, h2, h3⟩ | ⟨S, p, h1, h2, h3, h4, ok, h5, h6, h7⟩
  · exact Or.inl ⟨h1, h2, hu.blk h3 hB⟩
  · exact Or.inr ⟨S, p, h1, h2, h3, h4, ok, h5, hu.blk h6 hB, hu.ints h7 (hS S h1)⟩

/-- Memory: the copies of the script, 'into', the builder, the two rows of pairs seen. -/
structure LI (w wr : World) (gl gr I B gL gR T N : Nat) (zl zr into : List Int) (ss : List (Int × Int)) (So : Option Nat) (sl : List Int) : Prop where
  up : Upto (fun k => w.heap.size ≤ k) w wr
  l : Ints wr gl .i32 21 zl
  r : Ints wr gr .i32 21 zr
  i : Ints wr I .i32 21 into
  c : CT wr B (.slice (some ⟨I, 0, none⟩) T T) (.slice none 0 0) 0 (.slice none 0 0) So sl
  oL : wr.ownsRow w.heap.size 21 1 (.slice (some ⟨gL, 0, none⟩) ss.length N) ss.length ((ss.map Prod.fst).map (Value.int .i32))
  oR : wr.ownsRow w.heap.size 21 1 (.slice (some ⟨gR, 0, none⟩) ss.length N) ss.length ((ss.map Prod.snd).map (Value.int .i32))
  so : ∀ S, So = some S → gR < S
  sz : gR < wr.heap.size

/-- The blocks, in the order in which they were made. -/
structure Ord (w : World) (gl gr I B gL gR : Nat) : Prop where
  h1 : w.heap.size ≤ gl
  h2 : gl < gr
  h3 : gr < I
  h4 : I < B
  h5 : B < gL
  h6 : gL < gR

section
variable {w wr : World} {gl gr I B gL gR T N : Nat} {zl zr into : List Int} {ss : List (Int × Int)} {So : Option Nat} {sl : List Int}

theorem LI.join (h : LI w wr gl gr I B gL gR T N zl zr into ss So sl) (o : Ord w gl gr I B gL gR) (t : Nat) (v : Int) : LI w (wr.setCell ⟨I, t, none⟩ (.int .i32 v)) gl gr I B gL gR T N zl zr (into.set t v) ss So sl := by
  have h1 := o.h1; have h2 := o.h2; have h3 := o.h3; have h4 := o.h4; have h5 := o.h5; have h6 := o.h6
  have hu : Upto (fun k => k = I) wr (wr.setCell ⟨I, t, none⟩ (.int .i32 v)) := (Upto.refl (fun k => k = I) wr).setCell (p := ⟨I, t, none⟩) (fun _ => rfl) _
  refine ⟨h.up.setCell (p := ⟨I, t, none⟩) (fun _ => by simp; omega) _, hu.ints h.l (by omega), hu.ints h.r (by omega), h.i.set t v, h.c.upto hu (by omega) (fun S hS => by have := h.so S hS; omega), hu.owns h.oL (by omega), hu.owns h.oR (by omega), h.so, by simpa using h.sz⟩

theorem LI.count (h : LI w wr gl gr I B gL gR T N zl zr into ss So sl) (o : Ord w gl gr I B gL gR) {w2 w3 : World} {ss' : List (Int × Int)} {So' : Option Nat} {sl' : List Int}
    (hu : Upto (fun k => k = gL ∨ k = gR) wr w2) 
    (oL : w2.ownsRow w.heap.size 21 1 (.slice (some ⟨gL, 0, none⟩) ss'.length N) ss'.length ((ss'.map Prod.fst).map (Value.int .i32)))
    (oR : w2.ownsRow w.heap.size 21 1 (.slice (some ⟨gR, 0, none⟩) ss'.length N) ss'.length ((ss'.map Prod.snd).map (Value.int .i32)))
    (hu2 : Upto (fun k => k = B ∨ So = some k) w2 w3) (hc : CT w3 B (.slice (some ⟨I, 0, none⟩) T T) (.slice none 0 0) 0 (.slice none 0 0) So' sl') (hS : So' = So ∨ ∃ S, So' = some S ∧ w2.heap.size < S) :
    LI w w3 gl gr I B gL gR T N zl zr into ss' So' sl' := by
  have h1 := o.h1; have h2 := o.h2; have h3 := o.h3; have h4 := o.h4; have h5 := o.h5; have h6 := o.h6
  have n2 : ∀ k, k ≤ gR → k ≠ B → ¬ (k = B ∨ So = some k) := by
    intro k hk hkB e
    rcases e with e | e
    · exact hkB e
    · have := h.so k e; omega
  have a1 := hu.size
  have a2 := hu2.size
  have a3 := h.sz
  refine ⟨(h.up.trans (hu.mono (fun k _ e => by omega))).trans (hu2.mono (fun k _ e => by rcases e with e | e; omega; have := h.so k e; omega)), hu2.ints (hu.ints h.l (by omega)) (n2 _ (by omega) (by omega)), hu2.ints (hu.ints h.r (by omega)) (n2 _ (by omega) (by omega)), hu2.ints (hu.ints h.i (by omega)) (n2 _ (by omega) (by omega)), hc, hu2.owns oL (n2 _ (by omega) (by omega)), hu2.owns oR (n2 _ (by omega) (by omega)), ?_, by omega⟩
  intro S hS'
  rcases hS with e | ⟨S2, e, hlt⟩
  · exact h.so S (e ▸ hS')
  · rw [e] at hS'
    cases hS'
    omega
end

theorem fst_snoc (ss : List (Int × Int)) (l r : Int) : ((ss ++ [(l, r)]).map Prod.fst).map (Value.int .i32) = (ss.map Prod.fst).map (Value.int .i32) ++ [.int .i32 l] := by simp
theorem snd_snoc (ss : List (Int × Int)) (l r : Int) : ((ss ++ [(l, r)]).map Prod.snd).map (Value.int .i32) = (ss.map Prod.snd).map (Value.int .i32) ++ [.int .i32 r] := by simp
theorem snoc_mem (ss : List (Int × Int)) (x q : Int × Int) : q ∈ ss ++ [x] ↔ q ∈ ss ∨ q = x := by simp
theorem seen_mem {ss : List (Int × Int)} {x : Int × Int} (hx : x ∈ ss) (q : Int × Int) : q ∈ ss ↔ q ∈ ss ∨ q = x := ⟨Or.inl, fun h => h.elim id (fun e => e ▸ hx)⟩
theorem snoc_nodup {ss : List (Int × Int)} {x : Int × Int} (hn : ss.Nodup) (hx : x ∉ ss) : (ss ++ [x]).Nodup := by
  rw [List.nodup_append]
  exact ⟨hn, by simp, fun a ha b hb e => hx (by simp at hb; rw [← hb, ← e]; exact ha)⟩
theorem fp_neg {ss : List (Int × Int)} {x : Int × Int} (hx : x ∉ ss) : fp ss x = -1 := by unfold fp; rw [if_neg hx]
theorem fp_pos {ss : List (Int × Int)} {x : Int × Int} (hx : x ∈ ss) : fp ss x = (ss.idxOf x : Int) := by unfold fp; rw [if_pos hx]

theorem xor_neg (a : Int) (h : -2147483648 ≤ a) (h0 : a < 0) : bits .xor .i32 (-1) a = -a - 1 := by
  have e1 : (BitVec.ofInt 32 (-1)) = BitVec.allOnes 32 := by decide
  have e2 : (BitVec.ofInt 32 a).toNat = (a + 4294967296).toNat := by
    rw [BitVec.toNat_ofInt]
    congr 1
    simp
    omega
  show IntKind.i32.wrap ((BitVec.ofInt 32 (-1) ^^^ BitVec.ofInt 32 a).toNat : Int) = _
  rw [e1, BitVec.allOnes_xor, BitVec.toNat_not, e2, IntKind.wrap_i32]
  omega

/-- What one count leaves. -/
def Counted (w w' : World) (B I T : Nat) (into : List Int) (l r : Int) (So : Option Nat) (sl : List Int) : Prop :=
  ∃ So' sl', CT w' B (.slice (some ⟨I, 0, none⟩) T T) (.slice none 0 0) 0 (.slice none 0 0) So' sl' ∧ Upto (fun k => k = B ∨ So = some k) w w' ∧ (So' = So ∨ ∃ S, So' = some S ∧ w.heap.size < S) ∧ So' ≠ none ∧
    pk l r ∈ Tab.keys sl' ∧ (∀ x ∈ Tab.keys sl', x ∈ Tab.keys sl ∨ x = pk l r) ∧ (∀ x ∈ Tab.keys sl, liveB into x = true → x ∈ Tab.keys sl') ∧
    (sl'.length ≤ sl.length ∨ sl'.length ≤ 64 ∨ sl'.length < 8 * ((Tab.keys sl).length + 1))

theorem once_as (B I T : Nat) (into : List Int) (l r : Int) (So : Option Nat) (sl : List Int) (w : World) (bv : Bool) (hbv : Hid (decide (pk l r ∉ Tab.keys sl) = bv))
    (hC : CT w B (.slice (some ⟨I, 0, none⟩) T T) (.slice none 0 0) 0 (.slice none 0 0) So sl) (hI : Ints w I .i32 21 into) (hT : into.length = T) (hT2 : T ≤ 65536) (hIB : I ≠ B) (hIS : So ≠ some I)
    (hl : 0 ≤ l ∧ l < T) (hr : 0 ≤ r ∧ r < T) (hlr : l ≠ r) (hlv : liveB into (pk l r) = true)
    (hbd : ∀ x ∈ sl, x ≠ 0 → 0 ≤ x ∧ x / 4294967296 < T ∧ x % 4294967296 < T) (hsz : sl.length ≤ 65536) :
    Calls Try.prog 30 #[.pointer (some ⟨B, 0, none⟩), .int .i32 l, .int .i32 r] w fun e w' => e = .returned (.bool bv) ∧ Counted w w' B I T into l r So sl := by
  have h := zzOnce (R := fun b w' => b = bv ∧ Counted w w' B I T into l r So sl) ⟨B, 0, none⟩ l r w
    ((co_any B I T into (.slice none 0 0) (.slice none 0 0) 0 l r So sl w hC hI hT hT2 hIB hIS hl hr hlr hlv hbd hsz).mono (fun e w' h => ⟨_, h.1, hbv.out, h.2⟩))
  refine h.mono ?_
  rintro e w' ⟨b, rfl, rfl, hc⟩
  exact ⟨rfl, hc⟩

/-- What a count leaves of the law's own state, whether or not the pair was seen before. -/
theorem count_step {w wr w2 w3 : World} {gl gr I B gL gR T N k : Nat} {zl zr into : List Int} {ss ss' : List (Int × Int)} {So : Option Nat} {sl : List Int} {l r : Int}
    (hs : SI T k into ss sl) (h : LI w wr gl gr I B gL gR T N zl zr into ss So sl) (o : Ord w gl gr I B gL gR) (hk : k ≤ 4096) (hl : 0 ≤ l ∧ l < T) (hr : 0 ≤ r ∧ r < T) (hlr : l ≠ r)
    (hm : (l, r) ∈ ss') (hss : ∀ q, q ∈ ss' ↔ q ∈ ss ∨ q = (l, r)) (hnd : ss'.Nodup) (hlen : ss'.length ≤ k + 1)
    (hu : Upto (fun k => k = gL ∨ k = gR) wr w2)
    (oL : w2.ownsRow w.heap.size 21 1 (.slice (some ⟨gL, 0, none⟩) ss'.length N) ss'.length ((ss'.map Prod.fst).map (Value.int .i32)))
    (oR : w2.ownsRow w.heap.size 21 1 (.slice (some ⟨gR, 0, none⟩) ss'.length N) ss'.length ((ss'.map Prod.snd).map (Value.int .i32)))
    (hc : Counted w2 w3 B I T into l r So sl) : ∃ So' sl', SI T (k + 1) into ss' sl' ∧ LI w w3 gl gr I B gL gR T N zl zr into ss' So' sl' ∧ So' ≠ none := by
  obtain ⟨So', sl', c1, c2, c3, c4, c5, c6, c7, c8⟩ := hc
  exact ⟨So', sl', hs.count hk hl hr hlr hm hss hnd hlen c1.nodup c5 c6 c7 c8, h.count o hu oL oR c2 c1 c3, c4⟩

theorem fill_step (k T : Nat) (h : k < T) : (List.replicate k (-1 : Int) ++ List.replicate (T - k) 0).set k (-1) = List.replicate (k + 1) (-1) ++ List.replicate (T - (k + 1)) 0 := by
  rw [List.set_append_right _ _ (by simp)]
  have e2 : T - k = (T - (k + 1)) + 1 := by omega
  simp only [List.length_replicate, Nat.sub_self]
  rw [e2, List.replicate_succ (n := T - (k + 1)), List.set_cons_zero, List.replicate_succ' (n := k), List.append_assoc]
  rfl

end Go.Proofs.Qxb6600921a
