/-
  BLOCKS OF THE CALL's OWN, KNOWN WHOLE ('Blk', 'Ints'); WHICH BLOCKS MAY HAVE TURNED ('Upto'). Over any program.
-/
import Derived.WalkKit
import Derived.Deep.QuietTactic
import Derived.BigQuiet
namespace Go.Proofs.Qxb6600921a
open Go.RowKit

/-- Block g holds the cells cs, of element type t, and may be written. -/
def Blk (w : World) (g : Nat) (cs : List Value) (t : TypeId) : Prop := w.heap[g]? = some (.cells cs.toArray t (0, 0))

section
variable {w : World} {g : Nat} {cs : List Value} {t : TypeId}

theorem Blk.lt (h : Blk w g cs t) : g < w.heap.size := lt_of_block h
theorem Blk.cell (h : Blk w g cs t) {i : Nat} {v : Value} (hv : cs[i]? = some v) : w.cell? ⟨g, i, none⟩ = some v := by
  rw [cell_of_row w g i _ t _ h]; simpa using hv
theorem Blk.frozen (h : Blk w g cs t) (i : Nat) : w.frozen? ⟨g, i, none⟩ = false := frozen_of_row w g i _ t h
theorem Blk.drew (h : Blk w g cs t) : Blk w.drew g cs t := h
theorem Blk.drewN (h : Blk w g cs t) (n : Nat) : Blk (w.drewN n) g cs t := h
theorem Blk.alloc (h : Blk w g cs t) (o : Obj) : Blk (w.alloc o) g cs t := by
  unfold Blk; rw [Below.heap_alloc w o g h.lt]; exact h
theorem Blk.new (w : World) (cs : List Value) (t : TypeId) : Blk (w.alloc (.cells cs.toArray t)) w.heap.size cs t := heap_alloc_new w _
theorem Blk.other (h : Blk w g cs t) {a : Addr} (ha : g ≠ a.block) (v : Value) : Blk (w.setCell a v) g cs t := by
  unfold Blk; rw [heap_setCell_other w a g v ha]; exact h
theorem Blk.set (h : Blk w g cs t) (i : Nat) (v : Value) : Blk (w.setCell ⟨g, i, none⟩ v) g (cs.set i v) t := by
  unfold Blk; rw [heap_setCell_same w g i cs.toArray t v h]; simp
theorem Blk.inj (h : Blk w g cs t) {cs' : List Value} {t' : TypeId} (h' : Blk w g cs' t') : cs = cs' := by
  unfold Blk at h h'; rw [h] at h'; simp at h'; exact h'.1
end

/-- A row of numbers. -/
def Ints (w : World) (g : Nat) (k : IntKind) (t : TypeId) (zs : List Int) : Prop := Blk w g (zs.map (Value.int k)) t
theorem Ints.cell {w : World} {g : Nat} {k : IntKind} {t : TypeId} {zs : List Int} (h : Ints w g k t zs) {i : Nat} (hi : i < zs.length) : w.cell? ⟨g, i, none⟩ = some (.int k (zs.getD i 0)) := by
  refine Blk.cell h ?_
  rw [List.getElem?_map, List.getElem?_eq_getElem hi, List.getD_eq_getElem?_getD, List.getElem?_eq_getElem hi]; rfl
theorem Ints.set {w : World} {g : Nat} {k : IntKind} {t : TypeId} {zs : List Int} (h : Ints w g k t zs) (i : Nat) (v : Int) : Ints (w.setCell ⟨g, i, none⟩ (.int k v)) g k t (zs.set i v) := by
  unfold Ints; rw [List.map_set]; exact Blk.set h i _
theorem Ints.made (w : World) (k : IntKind) (t : TypeId) (n : Nat) : Ints (w.alloc (.cells (madeCells #[.int k 0] n) t)) w.heap.size k t (List.replicate n 0) := by
  unfold Ints Blk
  rw [heap_alloc_new]
  have : (madeCells #[.int k 0] n) = (List.map (Value.int k) (List.replicate n 0)).toArray := by
    rw [List.map_replicate, ← toList_madeCells_one]
  rw [this]

/-- w' is w with new blocks, and among the old ones those alone have turned of which P speaks. -/
structure Upto (P : Nat → Prop) (w w' : World) : Prop where
  os : w'.os = w.os
  tape : w'.tape = w.tape
  output : w'.output = w.output
  size : w.heap.size ≤ w'.heap.size
  block : ∀ k, k < w.heap.size → ¬ P k → w'.heap[k]? = w.heap[k]?

section
variable {P : Nat → Prop} {a b c w w' : World}
theorem Upto.refl (P : Nat → Prop) (w : World) : Upto P w w := ⟨rfl, rfl, rfl, Nat.le_refl _, fun _ _ _ => rfl⟩
theorem Upto.trans (h : Upto P a b) (k : Upto P b c) : Upto P a c :=
  ⟨k.os.trans h.os, k.tape.trans h.tape, k.output.trans h.output, Nat.le_trans h.size k.size, fun i hi hp => (k.block i (Nat.lt_of_lt_of_le hi h.size) hp).trans (h.block i hi hp)⟩
theorem Upto.mono {R : Nat → Prop} (h : Upto P a b) (hPR : ∀ k, k < a.heap.size → P k → R k) : Upto R a b :=
  ⟨h.os, h.tape, h.output, h.size, fun k hk hr => h.block k hk (fun hp => hr (hPR k hk hp))⟩
theorem Upto.alloc (h : Upto P a b) (o : Obj) : Upto P a (b.alloc o) :=
  h.trans ⟨rfl, rfl, rfl, by simp, fun k hk _ => Below.heap_alloc b o k hk⟩
theorem Upto.drew (h : Upto P a b) : Upto P a b.drew := ⟨h.os, h.tape, h.output, h.size, h.block⟩
theorem Upto.drewN (h : Upto P a b) (n : Nat) : Upto P a (b.drewN n) := ⟨h.os, h.tape, h.output, h.size, h.block⟩
theorem Upto.setCell (h : Upto P a b) {p : Addr} (hp : p.block < a.heap.size → P p.block) (u : Value) : Upto P a (b.setCell p u) := by
  refine ⟨h.os, h.tape, h.output, ?_, ?_⟩
  · simpa using h.size
  · intro k hk hn
    by_cases e : k = p.block
    · subst e; exact absurd (hp hk) hn
    · rw [heap_setCell_other b p k u e]; exact h.block k hk hn
theorem Upto.blk (h : Upto P a b) {g : Nat} {cs : List Value} {t : TypeId} (hb : Blk a g cs t) (hn : ¬ P g) : Blk b g cs t := by
  unfold Blk; rw [h.block g hb.lt hn]; exact hb
theorem Upto.ints (h : Upto P a b) {g : Nat} {k : IntKind} {t : TypeId} {zs : List Int} (hb : Ints a g k t zs) (hn : ¬ P g) : Ints b g k t zs := h.blk hb hn
theorem Upto.below (h : Upto P a b) {B : Nat} (hB : B ≤ a.heap.size) (hP : ∀ k, k < B → ¬ P k) : Below B a b :=
  ⟨h.os, h.tape, h.output, h.size, fun k hk => h.block k (Nat.lt_of_lt_of_le hk hB) (hP k hk)⟩
theorem Upto.ofBelow {B : Nat} (h : Below B a b) : Upto (fun k => B ≤ k) a b := ⟨h.os, h.tape, h.output, h.size, fun k _ hn => h.block k (Nat.lt_of_not_le hn)⟩
theorem Upto.ofGrown {row : Option Nat} (h : a.grownBy b row) : Upto (fun k => row = some k) a b :=
  ⟨h.os, h.tape, h.output, h.size, fun k hk hn => h.block k hk (fun e => hn e.symm)⟩
theorem Upto.owns (h : Upto P a b) {base : Nat} {e : TypeId} {size g n cap : Nat} {xs : List Value} (ho : a.ownsRow base e size (.slice (some ⟨g, 0, none⟩) n cap) n xs) (hn : ¬ P g) : b.ownsRow base e size (.slice (some ⟨g, 0, none⟩) n cap) n xs := by
  obtain ⟨h1, h2⟩ := ho
  refine ⟨h1, ?_⟩
  rcases h2 with h2 | ⟨g', cap', cur, hv, hg, hh, r⟩
  · exact Or.inl h2
  · have e : g' = g := by cases hv; rfl
    subst e
    exact Or.inr ⟨g', cap', cur, hv, hg, by rw [h.block g' (lt_of_block hh) hn]; exact hh, r⟩
end

/-! ### numbers -/
theorem and_mask (a : Int) (p : Nat) (hp : p ≤ 62) (h0 : 0 ≤ a) (h1 : a ≤ 18446744073709551615) : bits .and .u64 a ((2 ^ p : Nat) - 1 : Int) = ((a.toNat % 2 ^ p : Nat) : Int) := by
  have h2 : (2 : Nat) ^ p ≤ 2 ^ 62 := Nat.pow_le_pow_right (by decide) hp
  have := bits_mask .u64 64 (by decide) (fun n h h' => by rw [IntKind.wrap_u64]; omega) p (by omega) a h0 (by omega)
  rw [show ((2 ^ p : Nat) : Int) = (2 : Int) ^ p from by simp, this]
  obtain ⟨n, rfl⟩ := Int.eq_ofNat_of_zero_le h0
  simp

end Go.Proofs.Qxb6600921a
