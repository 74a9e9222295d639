/-
  A slice of numbers that came in, and its copy.
-/
import Derived.Test.Qxb6600921aLeaf
namespace Go.Proofs.Qxb6600921a
open Go.RowKit
set_option linter.unusedVariables false

/-- What is known of a slice of numbers that came in. -/
def SrcOk (w : World) (a : Option Addr) (len cap : Nat) (zs : List Int) : Prop :=
  (a = none ∧ len = 0 ∧ cap = 0) ∨ (∃ x, a = some x ∧ len = 0) ∨
  ∃ b off, a = some ⟨b, off, none⟩ ∧ len ≤ zs.length ∧ ∀ i, i < zs.length → w.cell? ⟨b, off + i, none⟩ = some (.int .i32 (zs.getD i 0))
theorem SrcOk.upto {w w' : World} {a : Option Addr} {len cap : Nat} {zs : List Int} (h : SrcOk w a len cap zs) (hu : Upto (fun _ => False) w w') : SrcOk w' a len cap zs := by
  rcases h with h | h | ⟨b, off, h1, h2, h3⟩
  · exact Or.inl h
  · exact Or.inr (Or.inl h)
  · refine Or.inr (Or.inr ⟨b, off, h1, h2, fun i hi => ?_⟩)
    have c0 := h3 i hi
    rw [← c0]
    exact World.cell?_of_block (w := w) (hu.block b (block_lt_of_cell c0) (fun h => h))
theorem SrcOk.some {w : World} {a : Option Addr} {len cap : Nat} {zs : List Int} (h : SrcOk w a len cap zs) (h0 : 0 < len) :
    ∃ b off, a = Option.some ⟨b, off, none⟩ ∧ len ≤ zs.length ∧ ∀ i, i < zs.length → w.cell? ⟨b, off + i, none⟩ = Option.some (.int .i32 (zs.getD i 0)) := by
  rcases h with h | ⟨x, _, h⟩ | h
  · omega
  · omega
  · exact h
theorem clone_any (a : Option Addr) (len cap : Nat) (zs : List Int) (w : World) (hlen : len ≤ 1048576) (h : SrcOk w a len cap zs) :
    Calls Try.prog 10 #[.slice a len cap] w fun e w' => ∃ ao, e = .returned (.slice ao len len) ∧ Upto (fun _ => False) w w' := by
  rcases h with ⟨rfl, rfl, rfl⟩ | ⟨x, rfl, rfl⟩ | ⟨b, off, rfl, h2, h3⟩
  · refine (clone_nil w).mono ?_
    rintro e w' ⟨rfl, rfl⟩
    exact ⟨_, rfl, Upto.refl _ _⟩
  · refine (clone_empty x cap w).mono ?_
    rintro e w' ⟨rfl, hu, _⟩
    exact ⟨_, rfl, hu⟩
  · refine (clone_some b off len cap zs w h2 hlen h3).mono ?_
    rintro e w' ⟨rfl, hu, _⟩
    exact ⟨_, rfl, hu⟩
theorem make22_00 (w : World) : (Instr.makeSlice 22 (.int .i64 0) (.int .i64 0)).run Try.prog w = .ok (.slice (some ⟨w.heap.size, 0, none⟩) 0 0) (w.alloc (.cells (madeCells #[.int .i32 0] 0) 21)) := make22 .i64 0 (by omega) w

end Go.Proofs.Qxb6600921a
