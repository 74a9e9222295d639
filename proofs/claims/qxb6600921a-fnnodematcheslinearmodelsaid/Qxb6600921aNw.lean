/-
  A new diagram.
-/
import Derived.Test.Qxb6600921aNd
import Derived.Test.Qxb6600921aSrc
namespace Go.Proofs.Qxb6600921a
open Go.RowKit
set_option linter.unusedVariables false

theorem info31n : (Try.prog.info? 31).map (fun i => (i.zero, i.size, i.bytes)) = some (some (.agg #[.int .i32 0, .int .i32 0, .int .i32 0]), 3, 12) := by kernel_rfl
def N2 : Array Value := (Tab.tcells [(0, 0, 0), (0, 0, 0)]).toArray
def U8 : Array Value := ((List.replicate 8 (0 : Int)).map (Value.int .i32)).toArray
def P2 : Array Value := (([0, 0] : List Int).map (Value.int .i32)).toArray
theorem make28 (l c : Nat) (hl : l ≤ c) (hc : c ≤ 100000) (w : World) : (Instr.makeSlice 28 (.int .i64 l) (.int .i64 c)).run Try.prog w = .ok (.slice (some ⟨w.heap.size, 0, none⟩) l c) (w.alloc (.cells (madeCells #[.int .i32 0, .int .i32 0, .int .i32 0] (c * 3)) 31)) := by
  obtain ⟨i, hi, h1, h2, h3⟩ := info_parts info31n
  have := run_make (P := Try.prog) w 28 31 i _ Try.underlying28 hi h1 .i64 .i64 l c (by omega) (by omega) (by rw [h3]; omega) (by omega)
  rw [this, h2]
  simp [Value.cells]
theorem make28_2 (w : World) : (Instr.makeSlice 28 (.int .i64 2) (.int .i64 2)).run Try.prog w = .ok (.slice (some ⟨w.heap.size, 0, none⟩) 2 2) (w.alloc (.cells N2 31)) := by
  have := make28 2 2 (by omega) (by omega) w
  rw [show madeCells #[.int .i32 0, .int .i32 0, .int .i32 0] (2 * 3) = N2 from by kernel_rfl] at this
  exact this
theorem make22_8 (w : World) : (Instr.makeSlice 22 (.int .i64 8) (.int .i64 8)).run Try.prog w = .ok (.slice (some ⟨w.heap.size, 0, none⟩) 8 8) (w.alloc (.cells U8 21)) := by
  have := make22 .i64 8 (by omega) w
  rw [show madeCells #[.int .i32 0] 8 = U8 from by kernel_rfl] at this
  exact this
theorem make22_2 (w : World) : (Instr.makeSlice 22 (.int .i64 2) (.int .i64 2)).run Try.prog w = .ok (.slice (some ⟨w.heap.size, 0, none⟩) 2 2) (w.alloc (.cells P2 21)) := by
  have := make22 .i64 2 (by omega) w
  rw [show madeCells #[.int .i32 0] 2 = P2 from by kernel_rfl] at this
  exact this
def ns0 : List Tab.K3 := [(0, 0, 0), (0, 0, 0)]
theorem four (w : World) (a b c d : Obj) : let w' := (((w.alloc a).alloc b).alloc c).alloc d
    w'.heap[w.heap.size]? = some a ∧ w'.heap[w.heap.size + 1]? = some b ∧ w'.heap[w.heap.size + 1 + 1]? = some c ∧ w'.heap[w.heap.size + 1 + 1 + 1]? = some d := by
  have e1 : (w.alloc a).heap.size = w.heap.size + 1 := by simp
  have e2 : ((w.alloc a).alloc b).heap.size = w.heap.size + 1 + 1 := by simp
  have e3 : (((w.alloc a).alloc b).alloc c).heap.size = w.heap.size + 1 + 1 + 1 := by simp
  refine ⟨?_, ?_, ?_, ?_⟩
  · rw [Below.heap_alloc _ d _ (by omega), Below.heap_alloc _ c _ (by omega), Below.heap_alloc _ b _ (by omega)]; exact heap_alloc_new w a
  · rw [Below.heap_alloc _ d _ (by omega), Below.heap_alloc _ c _ (by omega), ← e1]; exact heap_alloc_new (w.alloc a) b
  · rw [Below.heap_alloc _ d _ (by omega), ← e2]; exact heap_alloc_new ((w.alloc a).alloc b) c
  · rw [← e3]; exact heap_alloc_new (((w.alloc a).alloc b).alloc c) d
theorem dg0 {w : World} {base D gN gU gD : Nat} (h1 : w.heap[gN]? = some (.cells N2 31)) (h2 : w.heap[gU]? = some (.cells U8 21)) (h3 : w.heap[gD]? = some (.cells P2 21))
    (h4 : w.heap[D]? = some (.cells #[.slice (some ⟨gN, 0, none⟩) 2 2, .slice (some ⟨gU, 0, none⟩) 8 8, .slice (some ⟨gD, 0, none⟩) 2 2] 52)) (b1 : base ≤ gN) (b3 : base ≤ gD) :
    DG w base D gN gU gD 2 2 ns0 (List.replicate 8 0) [0, 0] :=
  ⟨h4, ⟨rfl, .inr ⟨gN, 2, N2, rfl, b1, h1, Nat.le_refl _, by unfold maxLen; omega, rfl, rfl⟩⟩, h2, ⟨rfl, .inr ⟨gD, 2, P2, rfl, b3, h3, Nat.le_refl _, by unfold maxLen; omega, rfl, rfl⟩⟩, rfl⟩

set_option maxRecDepth 100000 in
set_option maxHeartbeats 1000000 in
theorem newDiagram (w : World) :
    Calls Try.prog 12 #[] w fun e w' => ∃ D gN gU gD, e = .returned (.pointer (some ⟨D, 0, none⟩)) ∧ Upto (fun _ => False) w w' ∧ DG w' w.heap.size D gN gU gD 2 2 ns0 (List.replicate 8 0) [0, 0] ∧
      (D ≠ gN ∧ D ≠ gU ∧ D ≠ gD ∧ gN ≠ gU ∧ gN ≠ gD ∧ gU ≠ gD) ∧ w.heap.size ≤ D ∧ w.heap.size ≤ gN ∧ w.heap.size ≤ gU ∧ w.heap.size ≤ gD := by
  have m1 := make28_2
  have m2 := make22_8
  have m3 := make22_2
  go_enter Try.func12, Try.ntmps12
  go_wp2
  go_region
  all_goals
    go_wp2
    go_ret
    obtain ⟨x1, x2, x3, x4⟩ := four w _ _ _ _
    first
      | exact ⟨_, _, _, _, rfl, (((((Upto.refl _ _).alloc _).alloc _).alloc _).alloc _).drew, dg0 (by first | exact x1 | exact x2 | exact x3) (by first | exact x1 | exact x2 | exact x3) (by first | exact x1 | exact x2 | exact x3) x4 (by omega) (by omega), ⟨by omega, by omega, by omega, by omega, by omega, by omega⟩, by omega, by omega, by omega, by omega⟩
      | go_show
end Go.Proofs.Qxb6600921a
