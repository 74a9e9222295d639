/-
  THE SMALL FUNCTIONS, EACH BY ITS CONTRACT: pairKey, pairHash, countOnce's test 'live', zzFindPair, zzClone32, ZZNewTreeBuilder.
-/
import Derived.Test.Qxb6600921aRows
import Derived.Test.Qxb6600921aTab
import Derived.Test.Qxb6600921aMem
import Derived.WalkSpells
import Derived.WalkLawsBesides
namespace Go.Proofs.Qxb6600921a
open Go.RowKit
set_option linter.unusedVariables false

/-- A pair as one number. -/
def pk (a b : Int) : Int := a % 4294967296 * 4294967296 + b % 4294967296
/-- The hash of such a number. -/
def hs (p : Int) : Int := bits .xor .u64 (IntKind.u64.wrap (p * 11400714819323198485)) (IntKind.u64.wrap (p * 11400714819323198485) / 4294967296)
def hN (p : Int) : Nat := (hs p).toNat
theorem pk_bd (a b : Int) : 0 ≤ pk a b ∧ pk a b ≤ 18446744073709551615 := by unfold pk; omega
theorem hs_bd (p : Int) : 0 ≤ hs p ∧ hs p ≤ 18446744073709551615 := ⟨bits_lo_u64 _ _ _, bits_hi_u64 _ _ _⟩
theorem hN_cast (p : Int) : ((hN p : Nat) : Int) = hs p := by unfold hN; have := hs_bd p; omega
theorem ret_int {k : IntKind} {a b : Int} (h : a = b) : Ending.returned (.int k a) = .returned (.int k b) := by rw [h]
theorem ret_bool {a b : Bool} (h : a = b) : Ending.returned (.bool a) = .returned (.bool b) := by rw [h]
theorem or_pk (a b : Int) : bits .or .u64 (a % 4294967296 * 4294967296) (b % 4294967296) = pk a b :=
  bits_join .u64 64 (by decide) (fun n h h' => by rw [IntKind.wrap_u64]; omega) 32 _ _ (by omega) (by omega) (by omega) (by omega) (by omega) (by omega)

set_option maxHeartbeats 400000 in
theorem pairKey_any (a b : Int) (w : World) (ha : -2147483648 ≤ a ∧ a ≤ 2147483647) (hb : -2147483648 ≤ b ∧ b ≤ 2147483647) :
    Calls Try.prog 40 #[.int .i32 a, .int .i32 b] w fun e w' => e = .returned (.int .u64 (pk a b)) ∧ w = w' := by
  go_enter Try.func40, Try.ntmps40
  go_wp2
  go_ret
  exact ⟨ret_int (or_pk a b), rfl⟩

set_option maxHeartbeats 400000 in
theorem pairHash_any (p : Int) (w : World) (hp : 0 ≤ p ∧ p ≤ 18446744073709551615) :
    Calls Try.prog 42 #[.int .u64 p] w fun e w' => e = .returned (.int .u64 (hs p)) ∧ w = w' := by
  go_enter Try.func42, Try.ntmps42
  go_wp2
  go_ret
  exact ⟨rfl, rfl⟩

/-- Are both trees of a pair still live? -/
def liveB (zs : List Int) (p : Int) : Bool := p != 0 && (decide (zs.getD (p / 4294967296).toNat 0 < 0) && decide (zs.getD (p % 4294967296).toNat 0 < 0))

set_option maxHeartbeats 400000 in
theorem live_zero (X : Nat) (zs : List Int) (w : World) :
    Calls Try.prog 43 #[.int .u64 0, .pointer (some ⟨X, 0, none⟩)] w fun e w' => e = .returned (.bool (liveB zs 0)) ∧ w = w' := by
  go_enter Try.func43, Try.ntmps43
  go_wp2
  go_ret
  exact ⟨rfl, rfl⟩

set_option maxHeartbeats 400000 in
theorem live_more (p : Int) (X B I : Nat) (L : Nat) (zs : List Int) (w : World) (hx : w.cell? ⟨X, 0, none⟩ = some (.pointer (some ⟨B, 0, none⟩)))
    (hp : 0 ≤ p ∧ p ≤ 18446744073709551615) (h0 : p ≠ 0) (hi : w.cell? ⟨B, 5, none⟩ = some (.slice (some ⟨I, 0, none⟩) L L))
    (hz : ∀ i, i < L → w.cell? ⟨I, i, none⟩ = some (.int .i32 (zs.getD i 0)))
    (l1 : p / 4294967296 < L) (l2 : p % 4294967296 < L) :
    Calls Try.prog 43 #[.int .u64 p, .pointer (some ⟨X, 0, none⟩)] w fun e w' => e = .returned (.bool (liveB zs p)) ∧ w = w' := by
  go_enter Try.func43, Try.ntmps43
  go_wp2
  all_goals go_ret
  · exact ⟨ret_bool (by simp_all [liveB]), rfl⟩
  · refine ⟨ret_bool ?_, rfl⟩
    have hn : ¬ zs.getD (p / 4294967296).toNat 0 < 0 := by simpa using (by assumption : 0 ≤ zs[(p / 4294967296).toNat]?.getD 0)
    unfold liveB
    rw [decide_eq_false hn]
    simp

theorem live_any (p : Int) (X B I : Nat) (L : Nat) (zs : List Int) (w : World) (hx : w.cell? ⟨X, 0, none⟩ = some (.pointer (some ⟨B, 0, none⟩)))
    (hp : 0 ≤ p ∧ p ≤ 18446744073709551615) (hi : w.cell? ⟨B, 5, none⟩ = some (.slice (some ⟨I, 0, none⟩) L L))
    (hz : ∀ i, i < L → w.cell? ⟨I, i, none⟩ = some (.int .i32 (zs.getD i 0)))
    (hl : p ≠ 0 → p / 4294967296 < L ∧ p % 4294967296 < L) :
    Calls Try.prog 43 #[.int .u64 p, .pointer (some ⟨X, 0, none⟩)] w fun e w' => e = .returned (.bool (liveB zs p)) ∧ w = w' := by
  by_cases h0 : p = 0
  · subst h0; exact live_zero X zs w
  · exact live_more p X B I L zs w hx hp h0 hi hz (hl h0).1 (hl h0).2

/-- The place of a pair among those seen, or -1. -/
def fp (ss : List (Int × Int)) (x : Int × Int) : Int := if x ∈ ss then (ss.idxOf x : Int) else -1

theorem fp_hit {ss : List (Int × Int)} {a b : Int} {k : Nat} (hk : k < ss.length) (hb : ∀ j, j < k → ss[j]? ≠ some (a, b)) (h1 : (ss.map Prod.fst).getD k 0 = a) (h2 : (ss.map Prod.snd).getD k 0 = b) : fp ss (a, b) = (k : Int) := by
  have e : ss[k] = (a, b) := by
    rw [List.getD_eq_getElem?_getD, List.getElem?_map, List.getElem?_eq_getElem hk] at h1 h2
    simp at h1 h2
    exact Prod.ext h1 h2
  have hm : (a, b) ∈ ss := e ▸ List.getElem_mem hk
  unfold fp
  rw [if_pos hm]
  have hlt : ss.idxOf (a, b) < ss.length := List.idxOf_lt_length_iff.2 hm
  have hge : ¬ ss.idxOf (a, b) < k := by
    intro h
    exact hb _ h (by rw [List.getElem?_eq_getElem hlt]; simp)
  have hle : ss.idxOf (a, b) ≤ k := by
    rcases Nat.lt_or_ge k (ss.idxOf (a, b)) with h | h
    · exfalso
      have := List.not_of_lt_findIdx (p := fun x => x == (a, b)) (xs := ss) h
      simp [e] at this
    · exact h
  omega
theorem fp_miss {ss : List (Int × Int)} {a b : Int} (hb : ∀ j, j < ss.length → ss[j]? ≠ some (a, b)) : fp ss (a, b) = -1 := by
  unfold fp
  rw [if_neg]
  intro h
  obtain ⟨i, hi, e⟩ := List.mem_iff_getElem.1 h
  exact hb i hi (by rw [List.getElem?_eq_getElem hi, e])
theorem ne_fst {ss : List (Int × Int)} {a b : Int} {k : Nat} (h : ¬ (ss.map Prod.fst).getD k 0 = a) : ss[k]? ≠ some (a, b) := by
  intro e
  apply h
  rw [List.getD_eq_getElem?_getD, List.getElem?_map, e]; rfl
theorem ne_snd {ss : List (Int × Int)} {a b : Int} {k : Nat} (h : ¬ (ss.map Prod.snd).getD k 0 = b) : ss[k]? ≠ some (a, b) := by
  intro e
  apply h
  rw [List.getD_eq_getElem?_getD, List.getElem?_map, e]; rfl
theorem before_succ {α : Type} {ss : List α} {x : α} {k : Nat} (hb : ∀ j, j < k → ss[j]? ≠ some x) (hk : ss[k]? ≠ some x) : ∀ j, j < k + 1 → ss[j]? ≠ some x := by
  intro j hj
  by_cases e : j = k
  · rw [e]; exact hk
  · exact hb j (by omega)

set_option maxHeartbeats 400000 in
theorem findPair_any (gA gB cA cB : Nat) (ss : List (Int × Int)) (a b : Int) (w : World) (n : Nat) (hn : ss.length = n) (hlen : n ≤ 1048576)
    (hA : ∀ i, i < n → w.cell? ⟨gA, i, none⟩ = some (.int .i32 ((ss.map Prod.fst).getD i 0)))
    (hB : ∀ i, i < n → w.cell? ⟨gB, i, none⟩ = some (.int .i32 ((ss.map Prod.snd).getD i 0))) :
    Calls Try.prog 22 #[.slice (some ⟨gA, 0, none⟩) n cA, .slice (some ⟨gB, 0, none⟩) n cB, .int .i32 a, .int .i32 b] w fun e w' => e = .returned (.int .i32 (fp ss (a, b))) ∧ w = w' := by
  have HN : Hid (ss.length = n) := hn
  clear hn
  have HA : Hid (∀ i, i < n → w.cell? ⟨gA, i, none⟩ = some (.int .i32 ((ss.map Prod.fst).getD i 0))) := hA
  have HB : Hid (∀ i, i < n → w.cell? ⟨gB, i, none⟩ = some (.int .i32 ((ss.map Prod.snd).getD i 0))) := hB
  clear hA hB
  generalize hf : fp ss (a, b) = F
  have HF : Hid (fp ss (a, b) = F) := hf
  clear hf
  go_enter Try.func22, Try.ntmps22
  go_wp2
  go_loop [9] (fun i => ∃ k : Nat, k ≤ n ∧ i = .int .i64 k ∧ Hid (∀ j, j < k → ss[j]? ≠ some (a, b))) (fun i => n - (intOf i).toNat)
  case atStart => exact ⟨0, Nat.zero_le _, rfl, fun j hj => absurd hj (by omega)⟩
  case round =>
    obtain ⟨k, hk, rfl, hb⟩ := hrel
    by_cases hlt : k < n
    · have cA := HA.out k hlt
      have cB := HB.out k hlt
      generalize hx : (ss.map Prod.fst).getD k 0 = x at cA
      generalize hy : (ss.map Prod.snd).getD k 0 = y at cB
      have HX : Hid ((ss.map Prod.fst).getD k 0 = x) := hx
      have HY : Hid ((ss.map Prod.snd).getD k 0 = y) := hy
      clear hx hy
      by_cases h1 : x = a
      · by_cases h2 : y = b
        · have h1' : (x == a) = true := by simpa using h1
          have h2' : (y == b) = true := by simpa using h2
          have HR : Hid (fp ss (a, b) = (k : Int)) := fp_hit (by have := HN.out; omega) hb.out (HX.out.trans h1) (HY.out.trans h2)
          clear h1 h2
          go_wp2
          go_ret
          exact ⟨ret_int (HR.out.symm.trans HF.out), rfl⟩
        · have h1' : (x == a) = true := by simpa using h1
          have h2' : (y == b) = false := by simpa using h2
          have HS : Hid (∀ j, j < k + 1 → ss[j]? ≠ some (a, b)) := before_succ hb.out (ne_snd (by rw [HY.out]; exact h2))
          clear h1 h2
          go_wp2
          go_round
          case rel => exact ⟨k + 1, by omega, by go_num, HS⟩
          case measure => simp [intOf]; omega
      · have h1' : (x == a) = false := by simpa using h1
        have HS : Hid (∀ j, j < k + 1 → ss[j]? ≠ some (a, b)) := before_succ hb.out (ne_fst (by rw [HX.out]; exact h1))
        clear h1
        go_wp2
        go_round
        case rel => exact ⟨k + 1, by omega, by go_num, HS⟩
        case measure => simp [intOf]; omega
    · have HR : Hid (fp ss (a, b) = -1) := fp_miss (fun j hj => hb.out j (by have := HN.out; omega))
      go_wp2
      go_ret
      exact ⟨ret_int (HR.out.symm.trans HF.out), rfl⟩

/-! ### zzClone32 -/
theorem info21 : (Try.prog.info? 21).map (fun i => (i.zero, i.size, i.bytes)) = some (some (.int .i32 0), 1, 4) := by kernel_rfl
theorem make22 (kl : IntKind) (n : Nat) (hn : n ≤ 1048576) (w : World) : (Instr.makeSlice 22 (.int kl n) (.int kl n)).run Try.prog w = .ok (.slice (some ⟨w.heap.size, 0, none⟩) n n) (w.alloc (.cells (madeCells #[.int .i32 0] n) 21)) := by
  obtain ⟨i, hi, h1, h2, h3⟩ := info_parts info21
  have := run_make (P := Try.prog) w 22 21 i (.int .i32 0) Try.underlying22 hi h1 kl kl n n (by omega) (by omega) (by rw [h3]; omega) (by omega)
  rw [this, h2]
  simp [Value.cells]
theorem make22_0 (n : Nat) (hn : n ≤ 1048576) (w : World) : (Instr.makeSlice 22 (.int .i64 0) (.int .i64 n)).run Try.prog w = .ok (.slice (some ⟨w.heap.size, 0, none⟩) 0 n) (w.alloc (.cells (madeCells #[.int .i32 0] n) 21)) := by
  obtain ⟨i, hi, h1, h2, h3⟩ := info_parts info21
  have := run_make (P := Try.prog) w 22 21 i (.int .i32 0) Try.underlying22 hi h1 .i64 .i64 0 n (by omega) (by omega) (by rw [h3]; omega) (by omega)
  rw [this, h2]
  simp [Value.cells]

set_option maxHeartbeats 400000 in
theorem clone_nil (w : World) :
    Calls Try.prog 10 #[.slice none 0 0] w fun e w' => e = .returned (.slice none 0 0) ∧ w = w' := by
  have hnil := fun (W : World) (a : Option Addr) (n c : Nat) => Lib.run_eql_slice_nil (P := Try.prog) W 22 21 a n c 0 0 Try.underlying22
  go_enter Try.func10, Try.ntmps10
  go_wp2
  go_ret
  exact ⟨rfl, rfl⟩

theorem take_set (zs : List Int) (k len : Nat) (hk : k < len) (hl : len ≤ zs.length) : (zs.take k ++ List.replicate (len - k) 0).set k (zs.getD k 0) = zs.take (k + 1) ++ List.replicate (len - (k + 1)) 0 := by
  have hk' : k < zs.length := by omega
  rw [List.set_append_right _ _ (by simp; omega), List.take_succ_eq_append_getElem hk']
  have e : k - (zs.take k).length = 0 := by simp; omega
  have e2 : len - k = (len - (k + 1)) + 1 := by omega
  rw [e, e2, List.replicate_succ, List.set_cons_zero, List.getD_eq_getElem?_getD, List.getElem?_eq_getElem hk', List.append_assoc]
  rfl

set_option maxHeartbeats 400000 in
theorem clone_some (b off len cap : Nat) (zs : List Int) (w : World) (hl : len ≤ zs.length) (hlen : len ≤ 1048576)
    (hc : ∀ i, i < zs.length → w.cell? ⟨b, off + i, none⟩ = some (.int .i32 (zs.getD i 0))) :
    Calls Try.prog 10 #[.slice (some ⟨b, off, none⟩) len cap] w fun e w' => e = .returned (.slice (some ⟨w.heap.size, 0, none⟩) len len) ∧ Upto (fun _ => False) w w' ∧ Ints w' w.heap.size .i32 21 (zs.take len) ∧ w.heap.size < w'.heap.size := by
  have hmk := make22 .i64 len hlen
  have HC : Hid (∀ i, i < zs.length → w.cell? ⟨b, off + i, none⟩ = some (.int .i32 (zs.getD i 0))) := hc
  clear hc
  have hnil := fun (W : World) (a : Option Addr) (n c : Nat) => Lib.run_eql_slice_nil (P := Try.prog) W 22 21 a n c 0 0 Try.underlying22
  go_enter Try.func10, Try.ntmps10
  go_wp2
  go_loopw [4] (fun i wr => ∃ k : Nat, k ≤ len ∧ i = .int .i64 k ∧ Upto (fun _ => False) w wr ∧ Ints wr w.heap.size .i32 21 (zs.take k ++ List.replicate (len - k) 0) ∧ w.heap.size < wr.heap.size) (fun i _ => len - (intOf i).toNat)
  case atStart => exact ⟨0, Nat.zero_le _, rfl, (Upto.refl _ _).alloc _, by simpa using Ints.made w .i32 21 len, by simp⟩
  case round =>
    obtain ⟨k, hk, rfl, hu, hi, hz⟩ := hrel
    by_cases hlt : k < len
    · have c0 := HC.out k (by omega)
      have cs : wr.cell? ⟨b, off + k, none⟩ = some (.int .i32 (zs.getD k 0)) := by
        rw [← c0]; exact World.cell?_of_block (w := w) (hu.block b (block_lt_of_cell c0) (fun h => h))
      have ct := hi.cell (i := k) (by simp; omega)
      have fz := Blk.frozen hi k
      have HI : Hid (Ints wr w.heap.size .i32 21 (zs.take k ++ List.replicate (len - k) 0)) := hi
      clear hi c0
      generalize hx : zs.getD k 0 = x at cs
      generalize (List.take k zs ++ List.replicate (len - k) 0).getD k 0 = y at ct
      have HX : Hid (zs.getD k 0 = x) := hx
      clear hx
      go_wp2
      go_roundw
      case rel =>
        refine ⟨k + 1, by omega, by go_num, hu.setCell (fun h => absurd h (by simp)) _, ?_, by simpa using hz⟩
        have := HI.out.set k x
        rw [← HX.out, take_set zs k len hlt hl] at this
        rw [← HX.out]
        exact this
      case measure => simp [intOf]; omega
    · have : k = len := by omega
      subst this
      go_wp2
      go_ret
      exact ⟨rfl, hu, by simpa using hi, hz⟩

set_option maxHeartbeats 400000 in
theorem clone_empty (a : Addr) (cap : Nat) (w : World) :
    Calls Try.prog 10 #[.slice (some a) 0 cap] w fun e w' => e = .returned (.slice (some ⟨w.heap.size, 0, none⟩) 0 0) ∧ Upto (fun _ => False) w w' ∧ Ints w' w.heap.size .i32 21 [] ∧ w.heap.size < w'.heap.size := by
  have hmk : ∀ w : World, (Instr.makeSlice 22 (.int .i64 0) (.int .i64 0)).run Try.prog w = .ok (.slice (some ⟨w.heap.size, 0, none⟩) 0 0) (w.alloc (.cells (madeCells #[.int .i32 0] 0) 21)) := make22 .i64 0 (by omega)
  have hnil := fun (W : World) (a : Option Addr) (n c : Nat) => Lib.run_eql_slice_nil (P := Try.prog) W 22 21 a n c 0 0 Try.underlying22
  go_enter Try.func10, Try.ntmps10
  go_wp2
  go_loopw [4] (fun i wr => i = .int .i64 0 ∧ Upto (fun _ => False) w wr ∧ Ints wr w.heap.size .i32 21 [] ∧ w.heap.size < wr.heap.size) (fun _ _ => 0)
  case atStart => exact ⟨rfl, (Upto.refl _ _).alloc _, by simpa using Ints.made w .i32 21 0, by simp⟩
  case round =>
    obtain ⟨rfl, hu, hi, hz⟩ := hrel
    go_wp2
    go_ret
    exact ⟨rfl, hu, hi, hz⟩

end Go.Proofs.Qxb6600921a
