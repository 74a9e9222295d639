/-
  countOnce, the ways on which the table is not made anew: the pair is there already (co_hit), it is new and there is room (co_put), the table is still nil (co_new).
-/
import Derived.Test.Qxb6600921aLeaf
namespace Go.Proofs.Qxb6600921a
open Go.RowKit
set_option linter.unusedVariables false

def bl (vi vs : Value) (n : Int) (vp : Value) (pn : Int) (vt : Value) : List Value :=
  [.slice none 0 0, .int .i64 0, .slice none 0 0, .slice none 0 0, .slice none 0 0, vi, vs, .int .i64 n, .slice none 0 0, vp, .int .i32 pn, vt, .int .u32 0, .int .u32 0, .slice none 0 0, .slice none 0 0, .slice none 0 0, .slice none 0 0, .int .u32 0]

/-- How far the way still is to its end. -/
def gap (m t k : Nat) : Nat := (t + m - k) % m
theorem gap_eq (m q d e : Nat) (he : e ≤ d) (hd : d < m) : gap m ((q + d) % m) ((q + e) % m) = d - e := by
  have hm : 0 < m := by omega
  have hx : (q + e) % m < m := Nat.mod_lt _ hm
  have e1 : (q + d) % m = ((q + e) % m + (d - e)) % m := by
    rw [Nat.mod_add_mod]; congr 1; omega
  rw [e1]
  generalize (q + e) % m = x at hx
  unfold gap
  by_cases h : x + (d - e) < m
  · rw [Nat.mod_eq_of_lt h, show x + (d - e) + m - x = (d - e) + m from by omega, Nat.add_mod_right, Nat.mod_eq_of_lt (by omega)]
  · have : (x + (d - e)) % m = x + (d - e) - m := by
      rw [Nat.mod_eq_sub_mod (by omega), Nat.mod_eq_of_lt (by omega)]
    rw [this, show x + (d - e) - m + m - x = d - e from by omega, Nat.mod_eq_of_lt (by omega)]
theorem step_mod (m q e : Nat) : ((q + e) % m + 1) % m = (q + (e + 1)) % m := by
  rw [Nat.mod_add_mod]; rfl
theorem mask0 (p m : Nat) (hp : 2 ^ p = m) (hp2 : p ≤ 20) (x : Int) : bits .and .u64 (hs x) ((m : Int) - 1) = (((hN x + 0) % m : Nat) : Int) := by
  subst hp
  rw [and_mask (hs x) p (by omega) (hs_bd x).1 (hs_bd x).2]; rfl
theorem mask1 (p m : Nat) (hp : 2 ^ p = m) (hp2 : p ≤ 20) (q e : Nat) : bits .and .u64 ((((q + e) % m : Nat) : Int) + 1) ((m : Int) - 1) = (((q + (e + 1)) % m : Nat) : Int) := by
  have h2 : (2 : Nat) ^ p ≤ 2 ^ 20 := Nat.pow_le_pow_right (by decide) hp2
  subst hp
  have hx : (q + e) % 2 ^ p < 2 ^ p := Nat.mod_lt _ (Nat.two_pow_pos p)
  rw [and_mask _ p (by omega) (by omega) (by omega), ← step_mod]
  rfl

set_option maxRecDepth 100000 in
set_option maxHeartbeats 1000000 in
theorem co_hit (B S p n d : Nat) (vi vp vt : Value) (pn l r : Int) (sl : List Int) (w : World)
    (hl : 0 ≤ l ∧ l ≤ 65536) (hr : 0 ≤ r ∧ r ≤ 65536) (m : Nat) (hp : 2 ^ p = m) (hp2 : p ≤ 20) (hm : m ≤ 1048576) (hlen : sl.length = m)
    (hB : Blk w B (bl vi (.slice (some ⟨S, 0, none⟩) m m) n vp pn vt) 72) (hS : Ints w S .u64 74 sl)
    (hd : d < m) (h0 : sl.getD ((hN (pk l r) + d) % m) 0 = pk l r) (hk0 : pk l r ≠ 0)
    (hw : ∀ e, e < d → sl.getD ((hN (pk l r) + e) % m) 0 ≠ 0 ∧ sl.getD ((hN (pk l r) + e) % m) 0 ≠ pk l r) :
    Calls Try.prog 38 #[.pointer (some ⟨B, 0, none⟩), .int .i32 l, .int .i32 r] w fun e w' => e = .returned (.bool false) ∧ w.alloc (.cells #[.pointer (some ⟨B, 0, none⟩)] 44) = w' := by
  have hBl := hB.lt
  have hSl := Blk.lt hS
  have c6 : w.cell? ⟨B, 6, none⟩ = some (.slice (some ⟨S, 0, none⟩) m m) := hB.cell rfl
  have c7 : w.cell? ⟨B, 7, none⟩ = some (.int .i64 n) := hB.cell rfl
  have f7 := hB.frozen 7
  have fS := Blk.frozen hS
  have HB : Hid (Blk w B (bl vi (.slice (some ⟨S, 0, none⟩) m m) n vp pn vt) 72) := hB
  have HS : Hid (Ints w S .u64 74 sl) := hS
  have HP : Hid (2 ^ p = m) := hp
  have HL : Hid (sl.length = m) := hlen
  have hm1 : 1 ≤ m := by omega
  clear hB hS hp hlen
  have HW : Hid (∀ e, e < d → sl.getD ((hN (pk l r) + e) % m) 0 ≠ 0 ∧ sl.getD ((hN (pk l r) + e) % m) 0 ≠ pk l r) := hw
  have H0 : Hid (sl.getD ((hN (pk l r) + d) % m) 0 = pk l r) := h0
  clear hw h0
  go_enter Try.func38, Try.ntmps38
  go_wp2_with (first | (go_at_call 40; refine (pairKey_any _ _ _ (by omega) (by omega)).mono ?_; rintro e w' ⟨rfl, rfl⟩) | (go_at_call 42; refine (pairHash_any _ _ (pk_bd _ _)).mono ?_; rintro e w' ⟨rfl, rfl⟩))
  go_loop [10] (fun k => ∃ e j : Nat, e ≤ d ∧ j < m ∧ Hid (j = (hN (pk l r) + e) % m) ∧ k = .int .u64 j) (fun k => gap m ((hN (pk l r) + d) % m) (intOf k).toNat)
  case atStart => exact ⟨0, _, Nat.zero_le _, Nat.mod_lt _ hm1, rfl, by rw [mask0 p m HP.out hp2]⟩
  case round =>
    obtain ⟨e, j, he, hj, HJ, rfl⟩ := hrel
    have cj := HS.out.cell (i := j) (by rw [HL.out]; exact hj)
    by_cases hlt : e < d
    · have hv := HW.out e hlt
      rw [← HJ.out] at hv
      generalize sl.getD j 0 = v at cj hv
      obtain ⟨hv0, hv1⟩ := hv
      go_wp2
      go_round
      case rel => exact ⟨e + 1, _, by omega, Nat.mod_lt _ hm1, rfl, by rw [← mask1 p m HP.out hp2, ← HJ.out]⟩
      case measure =>
        simp only [intOf]
        rw [HJ.out, mask1 p m HP.out hp2, Int.toNat_natCast, Int.toNat_natCast, gap_eq _ _ _ _ hlt hd, gap_eq _ _ _ _ he hd]
        omega
    · have hv := H0.out
      have ed : e = d := by omega
      rw [← ed, ← HJ.out] at hv
      have HE : Hid (e = d) := ed
      clear ed
      rw [hv] at cj
      clear hv
      have hkk : (pk l r == pk l r) = true := beq_self_eq_true _
      go_wp2
      go_ret
      exact ⟨rfl, rfl⟩
set_option maxRecDepth 100000 in
set_option maxHeartbeats 1000000 in
theorem co_put (B S p n d : Nat) (vi vp vt : Value) (pn l r : Int) (sl : List Int) (w : World)
    (hl : 0 ≤ l ∧ l ≤ 65536) (hr : 0 ≤ r ∧ r ≤ 65536) (m : Nat) (hp : 2 ^ p = m) (hp2 : p ≤ 20) (hm : m ≤ 1048576) (hlen : sl.length = m)
    (hB : Blk w B (bl vi (.slice (some ⟨S, 0, none⟩) m m) n vp pn vt) 72) (hS : Ints w S .u64 74 sl) (hBS : B ≠ S)
    (hd : d < m) (h0 : sl.getD ((hN (pk l r) + d) % m) 0 = 0)
    (hw : ∀ e, e < d → sl.getD ((hN (pk l r) + e) % m) 0 ≠ 0 ∧ sl.getD ((hN (pk l r) + e) % m) 0 ≠ pk l r) (hroom : 2 * (n + 1) ≤ m) :
    Calls Try.prog 38 #[.pointer (some ⟨B, 0, none⟩), .int .i32 l, .int .i32 r] w fun e w' => e = .returned (.bool true) ∧
      Upto (fun k => k = B ∨ k = S) w w' ∧ Blk w' B (bl vi (.slice (some ⟨S, 0, none⟩) m m) (n + 1) vp pn vt) 72 ∧ Ints w' S .u64 74 (sl.set ((hN (pk l r) + d) % m) (pk l r)) := by
  have hBl := hB.lt
  have hSl := Blk.lt hS
  have c6 : w.cell? ⟨B, 6, none⟩ = some (.slice (some ⟨S, 0, none⟩) m m) := hB.cell rfl
  have c7 : w.cell? ⟨B, 7, none⟩ = some (.int .i64 n) := hB.cell rfl
  have f7 := hB.frozen 7
  have fS := Blk.frozen hS
  have HB : Hid (Blk w B (bl vi (.slice (some ⟨S, 0, none⟩) m m) n vp pn vt) 72) := hB
  have HS : Hid (Ints w S .u64 74 sl) := hS
  have HP : Hid (2 ^ p = m) := hp
  have HL : Hid (sl.length = m) := hlen
  have hm1 : 1 ≤ m := by omega
  clear hB hS hp hlen
  have HW : Hid (∀ e, e < d → sl.getD ((hN (pk l r) + e) % m) 0 ≠ 0 ∧ sl.getD ((hN (pk l r) + e) % m) 0 ≠ pk l r) := hw
  have H0 : Hid (sl.getD ((hN (pk l r) + d) % m) 0 = 0) := h0
  clear hw h0
  go_enter Try.func38, Try.ntmps38
  go_wp2_with (first | (go_at_call 40; refine (pairKey_any _ _ _ (by omega) (by omega)).mono ?_; rintro e w' ⟨rfl, rfl⟩) | (go_at_call 42; refine (pairHash_any _ _ (pk_bd _ _)).mono ?_; rintro e w' ⟨rfl, rfl⟩))
  go_loop [10] (fun k => ∃ e j : Nat, e ≤ d ∧ j < m ∧ Hid (j = (hN (pk l r) + e) % m) ∧ k = .int .u64 j) (fun k => gap m ((hN (pk l r) + d) % m) (intOf k).toNat)
  case atStart => exact ⟨0, _, Nat.zero_le _, Nat.mod_lt _ hm1, rfl, by rw [mask0 p m HP.out hp2]⟩
  case round =>
    obtain ⟨e, j, he, hj, HJ, rfl⟩ := hrel
    have cj := HS.out.cell (i := j) (by rw [HL.out]; exact hj)
    by_cases hlt : e < d
    · have hv := HW.out e hlt
      rw [← HJ.out] at hv
      generalize sl.getD j 0 = v at cj hv
      obtain ⟨hv0, hv1⟩ := hv
      go_wp2
      go_round
      case rel => exact ⟨e + 1, _, by omega, Nat.mod_lt _ hm1, rfl, by rw [← mask1 p m HP.out hp2, ← HJ.out]⟩
      case measure =>
        simp only [intOf]
        rw [HJ.out, mask1 p m HP.out hp2, Int.toNat_natCast, Int.toNat_natCast, gap_eq _ _ _ _ hlt hd, gap_eq _ _ _ _ he hd]
        omega
    · have hv := H0.out
      have ed : e = d := by omega
      rw [← ed, ← HJ.out] at hv
      have HE : Hid (e = d) := ed
      clear ed
      rw [hv] at cj
      clear hv
      go_wp2
      go_quiet (fail)
      go_wp2
      go_ret
      refine ⟨rfl, ?_, ?_, ?_⟩
      · exact ((((Upto.refl _ _).setCell (fun _ => Or.inr rfl) _).setCell (fun _ => Or.inl rfl) _).alloc _).drewN _
      · have h := (((HB.out.other (a := ⟨S, j, none⟩) hBS (.int .u64 (pk l r))).set 7 (.int .i64 (n + 1))).alloc (Obj.cells #[Value.pointer (some { block := B, off := 0 })] 44))
        exact h
      · have h := ((HS.out.set j (pk l r)).other (a := ⟨B, 7, none⟩) (Ne.symm hBS) (.int .i64 (n + 1))).alloc (Obj.cells #[Value.pointer (some { block := B, off := 0 })] 44)
        rw [← HE.out, ← HJ.out]
        exact h

theorem info74 : (Try.prog.info? 74).map (fun i => (i.zero, i.size, i.bytes)) = some (some (.int .u64 0), 1, 8) := by kernel_rfl
theorem make60 (n : Nat) (hn : n ≤ 1048576) (w : World) : (Instr.makeSlice 60 (.int .i64 n) (.int .i64 n)).run Try.prog w = .ok (.slice (some ⟨w.heap.size, 0, none⟩) n n) (w.alloc (.cells (madeCells #[.int .u64 0] n) 74)) := by
  obtain ⟨i, hi, h1, h2, h3⟩ := info_parts info74
  have := run_make (P := Try.prog) w 60 74 i (.int .u64 0) Try.underlying60 hi h1 .i64 .i64 n n (by omega) (by omega) (by rw [h3]; omega) (by omega)
  rw [this, h2]
  simp [Value.cells]
def Z64 : Array Value := ((List.replicate 64 (0 : Int)).map (Value.int .u64)).toArray
theorem Z64_at (j : Nat) (h : j < 64) : Z64[j]? = some (.int .u64 0) := by
  unfold Z64
  rw [List.getElem?_toArray, List.getElem?_map, List.getElem?_replicate, if_pos h]; rfl
theorem make64 (w : World) : (Instr.makeSlice 60 (.int .i64 64) (.int .i64 64)).run Try.prog w = .ok (.slice (some ⟨w.heap.size, 0, none⟩) 64 64) (w.alloc (.cells Z64 74)) := by
  have := make60 64 (by omega) w
  have e : madeCells #[.int .u64 0] 64 = Z64 := by
    unfold Z64
    rw [List.map_replicate, ← toList_madeCells_one]
  rw [e] at this
  exact this

set_option maxRecDepth 100000 in
set_option maxHeartbeats 1000000 in
theorem co_new (B : Nat) (vi vp vt : Value) (pn l r : Int) (w : World)
    (hl : 0 ≤ l ∧ l ≤ 65536) (hr : 0 ≤ r ∧ r ≤ 65536) (hk0 : pk l r ≠ 0)
    (hB : Blk w B (bl vi (.slice none 0 0) 0 vp pn vt) 72) :
    Calls Try.prog 38 #[.pointer (some ⟨B, 0, none⟩), .int .i32 l, .int .i32 r] w fun e w' => e = .returned (.bool true) ∧
      Upto (fun k => k = B) w w' ∧ Blk w' B (bl vi (.slice (some ⟨w.heap.size + 1, 0, none⟩) 64 64) 1 vp pn vt) 72 ∧ Ints w' (w.heap.size + 1) .u64 74 ((List.replicate 64 0).set (hN (pk l r) % 64) (pk l r)) := by
  have hBl := hB.lt
  have c6 : w.cell? ⟨B, 6, none⟩ = some (.slice none 0 0) := hB.cell rfl
  have c7 : w.cell? ⟨B, 7, none⟩ = some (.int .i64 0) := hB.cell rfl
  have f6 := hB.frozen 6
  have f7 := hB.frozen 7
  have HB : Hid (Blk w B (bl vi (.slice none 0 0) 0 vp pn vt) 72) := hB
  clear hB
  have hmk := make64
  go_enter Try.func38, Try.ntmps38
  go_wp2_with (first | (go_at_call 40; refine (pairKey_any _ _ _ (by omega) (by omega)).mono ?_; rintro e w' ⟨rfl, rfl⟩) | (go_at_call 42; refine (pairHash_any _ _ (pk_bd _ _)).mono ?_; rintro e w' ⟨rfl, rfl⟩))
  go_loop [10] (fun k => ∃ j : Nat, j < 64 ∧ Hid (j = hN (pk l r) % 64) ∧ k = .int .u64 j) (fun k => 0)
  case atStart => exact ⟨_, Nat.mod_lt _ (by omega), rfl, by have := mask0 6 64 rfl (by omega) (pk l r); simp at this; rw [this]; simp⟩
  case round =>
    obtain ⟨j, hj, HJ, rfl⟩ := hrel
    have cj := Z64_at j hj
    go_wp2
    go_quiet (fail)
    go_wp2
    go_ret
    refine ⟨rfl, ?_, ?_, ?_⟩
    · exact (((((Upto.refl (fun k => k = B) w).setCell (p := ⟨B, 6, none⟩) (fun _ => rfl) _).setCell (p := ⟨B, 7, none⟩) (fun _ => rfl) _).alloc _).alloc _).drewN _
    · have h := (((HB.out.set 6 (.slice (some ⟨w.heap.size + 1, 0, none⟩) 64 64)).set 7 (.int .i64 1)).alloc (Obj.cells #[Value.pointer (some { block := B, off := 0 })] 44)).alloc (Obj.cells (Z64.setIfInBounds j (Value.int IntKind.u64 (pk l r))) 74)
      exact h
    · have e : Z64.setIfInBounds j (Value.int IntKind.u64 (pk l r)) = (((List.replicate 64 (0 : Int)).set j (pk l r)).map (Value.int .u64)).toArray := by
        unfold Z64
        rw [List.map_set]; simp
      have h := Blk.new (((w.setCell ⟨B, 6, none⟩ (.slice (some ⟨w.heap.size + 1, 0, none⟩) 64 64)).setCell ⟨B, 7, none⟩ (.int .i64 1)).alloc (Obj.cells #[Value.pointer (some { block := B, off := 0 })] 44)) (((List.replicate 64 (0 : Int)).set j (pk l r)).map (Value.int .u64)) 74
      rw [← e] at h
      rw [← HJ.out]
      have hz : (((w.setCell ⟨B, 6, none⟩ (.slice (some ⟨w.heap.size + 1, 0, none⟩) 64 64)).setCell ⟨B, 7, none⟩ (.int .i64 1)).alloc (Obj.cells #[Value.pointer (some { block := B, off := 0 })] 44)).heap.size = w.heap.size + 1 := by simp
      rw [hz] at h
      exact h
end Go.Proofs.Qxb6600921a
