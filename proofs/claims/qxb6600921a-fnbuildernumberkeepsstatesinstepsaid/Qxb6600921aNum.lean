/-
  pairNumbers: slot and number, each by its contract.
-/
import Derived.Test.Qxb6600921aTab2
import Derived.Test.Qxb6600921aCo
import Derived.Deep.DeepCutAuto
namespace Go.Proofs.Qxb6600921a
open Go.RowKit
set_option linter.unusedVariables false

set_option maxRecDepth 100000 in
set_option maxHeartbeats 1000000 in
theorem slot_any (B o S p d m J : Nat) (ts : List Tab.NP) (k : Int) (w : World) (hp : 2 ^ p = m) (hp2 : p ≤ 20) (hm : m ≤ 1048576) (hlen : ts.length = m)
    (hk : 0 ≤ k ∧ k ≤ 18446744073709551615)
    (c0 : w.cell? ⟨B, o, none⟩ = some (.slice (some ⟨S, 0, none⟩) m m)) (hS : Blk w S (Tab.pcells ts) 79)
    (hJ : Hid (J = (hN k + d) % m)) (hd : d < m) (h0 : (ts.getD ((hN k + d) % m) (0, 0)).2 = 0 ∨ (ts.getD ((hN k + d) % m) (0, 0)).1 = k)
    (hw : ∀ e, e < d → (ts.getD ((hN k + e) % m) (0, 0)).2 ≠ 0 ∧ (ts.getD ((hN k + e) % m) (0, 0)).1 ≠ k) :
    Calls Try.prog 41 #[.pointer (some ⟨B, o, none⟩), .int .u64 k] w fun e w' => e = .returned (.int .u64 J) ∧ w = w' := by
  have HS : Hid (Blk w S (Tab.pcells ts) 79) := hS
  have HP : Hid (2 ^ p = m) := hp
  have HL : Hid (ts.length = m) := hlen
  have hm1 : 1 ≤ m := by omega
  have HW : Hid (∀ e, e < d → (ts.getD ((hN k + e) % m) (0, 0)).2 ≠ 0 ∧ (ts.getD ((hN k + e) % m) (0, 0)).1 ≠ k) := hw
  have H0 : Hid ((ts.getD ((hN k + d) % m) (0, 0)).2 = 0 ∨ (ts.getD ((hN k + d) % m) (0, 0)).1 = k) := h0
  clear hS hp hlen hw h0
  obtain ⟨hk1, hk2⟩ := hk
  go_enter Try.func41, Try.ntmps41
  go_wp2_with (first | (go_at_call 42; refine (pairHash_any _ _ ⟨hk1, hk2⟩).mono ?_; rintro e w' ⟨rfl, rfl⟩))
  go_loop [6] (fun v => ∃ e j : Nat, e ≤ d ∧ j < m ∧ Hid (j = (hN k + e) % m) ∧ v = .int .u64 j) (fun v => gap m ((hN k + d) % m) (intOf v).toNat)
  case atStart => exact ⟨0, _, Nat.zero_le _, Nat.mod_lt _ hm1, rfl, by rw [mask0 p m HP.out hp2]⟩
  case round =>
    obtain ⟨e, j, he, hj, HJ, rfl⟩ := hrel
    have cj0 := HS.out.cell (Tab.pcells_at0 ts j (by rw [HL.out]; exact hj))
    have cj1 := HS.out.cell (Tab.pcells_at1 ts j (by rw [HL.out]; exact hj))
    by_cases hlt : e < d
    · have hv := HW.out e hlt
      rw [← HJ.out] at hv
      generalize (ts.getD j (0, 0)).1 = v1 at cj0 hv
      generalize (ts.getD j (0, 0)).2 = v2 at cj1 hv
      have hv0 : (v2 != 0) = true := by simpa using hv.1
      have hv1 : (v1 != k) = true := by simpa using hv.2
      clear hv
      go_wp2
      go_round
      case rel => exact ⟨e + 1, _, by omega, Nat.mod_lt _ hm1, rfl, by rw [← mask1 p m HP.out hp2, ← HJ.out]⟩
      case measure =>
        simp only [intOf]
        rw [HJ.out, mask1 p m HP.out hp2, Int.toNat_natCast, Int.toNat_natCast, gap_eq _ _ _ _ hlt hd, gap_eq _ _ _ _ he hd]
        omega
    · have hv := H0.out
      have ed : e = d := by omega
      rw [← ed, ← HJ.out] at hv
      have HE : Hid (e = d) := ed
      clear ed
      generalize (ts.getD j (0, 0)).1 = v1 at cj0 hv
      generalize (ts.getD j (0, 0)).2 = v2 at cj1 hv
      by_cases hv2 : v2 = 0
      · subst hv2
        clear hv
        go_wp2
        go_ret
        exact ⟨ret_int (by rw [HJ.out, HE.out, hJ.out]), rfl⟩
      · have hv1 : v1 = k := by rcases hv with h | h; exact absurd h hv2; exact h
        subst hv1
        have hvv : (v1 != v1) = false := by simp
        have hv2' : (v2 != 0) = true := by simpa using hv2
        clear hv hv2
        go_wp2
        go_ret
        exact ⟨ret_int (by rw [HJ.out, HE.out, hJ.out]), rfl⟩

theorem info79 : (Try.prog.info? 79).map (fun i => (i.zero, i.size, i.bytes)) = some (some (.agg #[.int .u64 0, .int .i32 0]), 2, 16) := by kernel_rfl
theorem make55 (n : Nat) (hn : n ≤ 1048576) (w : World) : (Instr.makeSlice 55 (.int .i64 n) (.int .i64 n)).run Try.prog w = .ok (.slice (some ⟨w.heap.size, 0, none⟩) n n) (w.alloc (.cells (Tab.pcells (List.replicate n (0, 0))).toArray 79)) := by
  obtain ⟨i, hi, h1, h2, h3⟩ := info_parts info79
  have := run_make (P := Try.prog) w 55 79 i _ Try.underlying55 hi h1 .i64 .i64 n n (by omega) (by omega) (by rw [h3]; omega) (by omega)
  rw [this, h2, Tab.pcells_replicate]
  simp [Value.cells]

set_option maxRecDepth 100000 in
set_option maxHeartbeats 1000000 in
theorem num_hit (B o S p d m : Nat) (ts : List Tab.NP) (a b : Int) (F : Int) (w : World) (ha : -2147483648 ≤ a ∧ a ≤ 2147483647) (hb : -2147483648 ≤ b ∧ b ≤ 2147483647) (hp : 2 ^ p = m) (hp2 : p ≤ 20) (hm : m ≤ 1048576) (hlen : ts.length = m)
    (c0 : w.cell? ⟨B, o, none⟩ = some (.slice (some ⟨S, 0, none⟩) m m)) (hS : Blk w S (Tab.pcells ts) 79)
    (hd : d < m) (h0 : (ts.getD ((hN (pk a b) + d) % m) (0, 0)).1 = pk a b) (h1 : (ts.getD ((hN (pk a b) + d) % m) (0, 0)).2 = F + 1) (hF : 0 ≤ F ∧ F ≤ 1000000)
    (hw : ∀ e, e < d → (ts.getD ((hN (pk a b) + e) % m) (0, 0)).2 ≠ 0 ∧ (ts.getD ((hN (pk a b) + e) % m) (0, 0)).1 ≠ pk a b) :
    Calls Try.prog 36 #[.pointer (some ⟨B, o, none⟩), .int .i32 a, .int .i32 b] w fun e w' => e = .returned (.tuple #[.int .i32 F, .bool false]) ∧ w = w' := by
  have hm1 : 1 ≤ m := by omega
  obtain ⟨j, hj⟩ : ∃ j, j = (hN (pk a b) + d) % m := ⟨_, rfl⟩
  have HC := slot_any B o S p d m j ts (pk a b) w hp hp2 hm hlen (pk_bd a b) c0 hS hj hd (Or.inr h0) hw
  have hjm : j < m := by rw [hj]; exact Nat.mod_lt _ (by omega)
  have c1 := hS.cell (Tab.pcells_at1 ts j (by rw [hlen]; exact hjm))
  rw [← hj] at h1
  rw [h1] at c1
  have HCC : Hid (Calls Try.prog 41 #[.pointer (some ⟨B, o, none⟩), .int .u64 (pk a b)] w fun e w' => e = .returned (.int .u64 j) ∧ w = w') := HC
  clear HC hS hw h0 h1 hj hp hlen
  go_enter Try.func36, Try.ntmps36
  go_wp2_with (first | (go_at_call 40; refine (pairKey_any _ _ _ ha hb).mono ?_; rintro e w' ⟨rfl, rfl⟩) | (go_at_call 41; refine HCC.out.mono ?_; rintro e w' ⟨rfl, rfl⟩))
  go_ret2
  exact ⟨rfl, rfl⟩

set_option maxRecDepth 100000 in
set_option maxHeartbeats 1000000 in
theorem num_put (B o S p d m n : Nat) (cs : List Value) (t : TypeId) (ts : List Tab.NP) (a b : Int) (w : World) (ha : -2147483648 ≤ a ∧ a ≤ 2147483647) (hb : -2147483648 ≤ b ∧ b ≤ 2147483647) (hp : 2 ^ p = m) (hp2 : p ≤ 20) (hm : m ≤ 1048576) (hlen : ts.length = m)
    (hB : Blk w B cs t) (e0 : cs[o]? = some (.slice (some ⟨S, 0, none⟩) m m)) (e1 : cs[o + 1]? = some (.int .i32 n)) (hS : Blk w S (Tab.pcells ts) 79) (hBS : B ≠ S)
    (hd : d < m) (h0 : (ts.getD ((hN (pk a b) + d) % m) (0, 0)).2 = 0) (hn : n ≤ 1000000) (hroom : 2 * (n + 1) ≤ m)
    (hw : ∀ e, e < d → (ts.getD ((hN (pk a b) + e) % m) (0, 0)).2 ≠ 0 ∧ (ts.getD ((hN (pk a b) + e) % m) (0, 0)).1 ≠ pk a b) :
    Calls Try.prog 36 #[.pointer (some ⟨B, o, none⟩), .int .i32 a, .int .i32 b] w fun e w' => e = .returned (.tuple #[.int .i32 n, .bool true]) ∧
      Upto (fun k => k = B ∨ k = S) w w' ∧ Blk w' B (cs.set (o + 1) (.int .i32 (n + 1))) t ∧ Blk w' S (Tab.pcells (ts.set ((hN (pk a b) + d) % m) (pk a b, n + 1))) 79 := by
  have hm1 : 1 ≤ m := by omega
  have c0 := hB.cell e0
  have c1 := hB.cell e1
  have f1 := hB.frozen (o + 1)
  have fS := hS.frozen
  obtain ⟨j, hj⟩ : ∃ j, j = (hN (pk a b) + d) % m := ⟨_, rfl⟩
  have HC := slot_any B o S p d m j ts (pk a b) w hp hp2 hm hlen (pk_bd a b) c0 hS hj hd (Or.inl h0) hw
  have hjm : j < m := by rw [hj]; exact Nat.mod_lt _ (by omega)
  have s0 := hS.cell (Tab.pcells_at0 ts j (by rw [hlen]; exact hjm))
  have s1 := hS.cell (Tab.pcells_at1 ts j (by rw [hlen]; exact hjm))
  rw [← hj] at h0
  rw [h0] at s1
  rw [← hj]
  generalize (ts.getD j (0, 0)).1 = v0 at s0
  have HCC : Hid (Calls Try.prog 41 #[.pointer (some ⟨B, o, none⟩), .int .u64 (pk a b)] w fun e w' => e = .returned (.int .u64 j) ∧ w = w') := HC
  have HB : Hid (Blk w B cs t) := hB
  have HS : Hid (Blk w S (Tab.pcells ts) 79) := hS
  have HL : Hid (ts.length = m) := hlen
  clear HC hS hw h0 hj hp hlen hB e0 e1
  go_enter Try.func36, Try.ntmps36
  go_wp2_with (first | (go_at_call 40; refine (pairKey_any _ _ _ ha hb).mono ?_; rintro e w' ⟨rfl, rfl⟩) | (go_at_call 41; refine HCC.out.mono ?_; rintro e w' ⟨rfl, rfl⟩))
  go_region
  go_wp2
  go_quiet (fail)
  go_wp2
  go_ret2
  refine ⟨rfl, ?_, ?_, ?_⟩
  · exact ((((Upto.refl (fun k => k = B ∨ k = S) w).setCell (p := ⟨B, o + 1, none⟩) (fun _ => Or.inl rfl) _).setCell (p := ⟨S, j * 2, none⟩) (fun _ => Or.inr rfl) _).setCell (p := ⟨S, j * 2 + 1, none⟩) (fun _ => Or.inr rfl) _).drewN _
  · exact ((((HB.out.set (o + 1) (.int .i32 (n + 1))).other (a := ⟨S, j * 2, none⟩) hBS _).other (a := ⟨S, j * 2 + 1, none⟩) hBS _).drewN _)
  · rw [← Tab.pcells_set ts j _ (by rw [HL.out]; exact hjm)]
    exact ((((HS.out.other (a := ⟨B, o + 1, none⟩) (Ne.symm hBS) _).set (j * 2) _).set (j * 2 + 1) _).drewN _)

def P64 : Array Value := (Tab.pcells (List.replicate 64 (0, 0))).toArray
theorem P64_at0 (j : Nat) (h : j < 64) : P64[j * 2]? = some (.int .u64 0) := by
  unfold P64
  rw [List.getElem?_toArray, Tab.pcells_at0 _ _ (by simpa using h), List.getD_eq_getElem?_getD, List.getElem?_replicate, if_pos h]; rfl
theorem P64_at1 (j : Nat) (h : j < 64) : P64[j * 2 + 1]? = some (.int .i32 0) := by
  unfold P64
  rw [List.getElem?_toArray, Tab.pcells_at1 _ _ (by simpa using h), List.getD_eq_getElem?_getD, List.getElem?_replicate, if_pos h]; rfl
theorem P64_size : P64.size = 128 := by
  unfold P64
  rw [List.size_toArray, Tab.pcells_len]; simp
theorem make64p (w : World) : (Instr.makeSlice 55 (.int .i64 64) (.int .i64 64)).run Try.prog w = .ok (.slice (some ⟨w.heap.size, 0, none⟩) 64 64) (w.alloc (.cells P64 79)) := make55 64 (by omega) w

set_option maxRecDepth 100000 in
set_option maxHeartbeats 1000000 in
theorem num_new (B o : Nat) (cs : List Value) (t : TypeId) (a b : Int) (w : World) (ha : -2147483648 ≤ a ∧ a ≤ 2147483647) (hb : -2147483648 ≤ b ∧ b ≤ 2147483647)
    (hB : Blk w B cs t) (e0 : cs[o]? = some (.slice none 0 0)) (e1 : cs[o + 1]? = some (.int .i32 0)) :
    Calls Try.prog 36 #[.pointer (some ⟨B, o, none⟩), .int .i32 a, .int .i32 b] w fun e w' => e = .returned (.tuple #[.int .i32 0, .bool true]) ∧
      Upto (fun k => k = B) w w' ∧ Blk w' B ((cs.set o (.slice (some ⟨w.heap.size, 0, none⟩) 64 64)).set (o + 1) (.int .i32 1)) t ∧ Blk w' w.heap.size (Tab.pcells ((List.replicate 64 (0, 0)).set (hN (pk a b) % 64) (pk a b, 1))) 79 := by
  have c0 := hB.cell e0
  have c1 := hB.cell e1
  have f0 := hB.frozen o
  have f1 := hB.frozen (o + 1)
  have hBl := hB.lt
  obtain ⟨j, hj⟩ : ∃ j, j = hN (pk a b) % 64 := ⟨_, rfl⟩
  have hjm : j < 64 := by rw [hj]; exact Nat.mod_lt _ (by omega)
  have p0 := P64_at0 j hjm
  have p1 := P64_at1 j hjm
  have psz := P64_size
  have HJ : Hid (j = (hN (pk a b) + 0) % 64) := hj
  rw [← hj]
  have HB : Hid (Blk w B cs t) := hB
  have hmk := make64p
  have hoo : o < cs.length := by rw [List.getElem?_eq_some_iff] at e0; exact e0.1
  clear hj hB e0 e1
  have HC : Hid (Calls Try.prog 41 #[.pointer (some ⟨B, o, none⟩), .int .u64 (pk a b)] ((w.setCell ⟨B, o, none⟩ (.slice (some ⟨w.heap.size, 0, none⟩) 64 64)).alloc (.cells P64 79)) fun e w' => e = .returned (.int .u64 j) ∧ ((w.setCell ⟨B, o, none⟩ (.slice (some ⟨w.heap.size, 0, none⟩) 64 64)).alloc (.cells P64 79)) = w') := by
    refine slot_any B o w.heap.size 6 0 64 j (List.replicate 64 (0, 0)) (pk a b) _ rfl (by omega) (by omega) (by simp) (pk_bd a b) ?_ ?_ HJ (by omega) (Or.inl ?_) (fun e he => absurd he (by omega))
    · exact ((HB.out.set o _).alloc _).cell (by rw [List.getElem?_set_self hoo])
    · have := Blk.new (w.setCell ⟨B, o, none⟩ (.slice (some ⟨w.heap.size, 0, none⟩) 64 64)) (Tab.pcells (List.replicate 64 (0, 0))) 79
      rw [World.size_setCell] at this
      exact this
    · rw [← HJ.out, List.getD_eq_getElem?_getD, List.getElem?_replicate, if_pos hjm]; rfl
  go_enter Try.func36, Try.ntmps36
  go_wp2_with (first | (go_at_call 40; refine (pairKey_any _ _ _ ha hb).mono ?_; rintro e w' ⟨rfl, rfl⟩) | (go_at_call 41; refine HC.out.mono ?_; rintro e w' ⟨rfl, rfl⟩))
  go_region
  go_wp2
  go_quiet (fail)
  go_wp2
  go_ret2
  refine ⟨rfl, ?_, ?_, ?_⟩
  · exact ((((Upto.refl (fun k => k = B) w).setCell (p := ⟨B, o, none⟩) (fun _ => rfl) _).setCell (p := ⟨B, o + 1, none⟩) (fun _ => rfl) _).alloc _).drewN _
  · exact (((HB.out.set o _).set (o + 1) (.int .i32 1)).alloc _).drewN _
  · have h := Blk.new ((w.setCell ⟨B, o, none⟩ (.slice (some ⟨w.heap.size, 0, none⟩) 64 64)).setCell ⟨B, o + 1, none⟩ (.int .i32 1)) (Tab.pcells ((List.replicate 64 (0, 0)).set j (pk a b, 1))) 79
    rw [World.size_setCell, World.size_setCell, ← Tab.pcells_set _ _ _ (by simpa using hjm)] at h
    rw [← Tab.pcells_set _ _ _ (by simpa using hjm)]
    have e : (((Tab.pcells (List.replicate 64 (0, 0))).set (j * 2) (.int .u64 (pk a b))).set (j * 2 + 1) (.int .i32 1)).toArray = (P64.setIfInBounds (j * 2) (Value.int IntKind.u64 (pk a b))).setIfInBounds (j * 2 + 1) (Value.int IntKind.i32 1) := by
      unfold P64; simp
    have h2 : Blk (((w.setCell ⟨B, o, none⟩ (.slice (some ⟨w.heap.size, 0, none⟩) 64 64)).setCell ⟨B, o + 1, none⟩ (.int .i32 1)).alloc (.cells ((P64.setIfInBounds (j * 2) (Value.int IntKind.u64 (pk a b))).setIfInBounds (j * 2 + 1) (Value.int IntKind.i32 1)) 79)) w.heap.size (((Tab.pcells (List.replicate 64 (0, 0))).set (j * 2) (.int .u64 (pk a b))).set (j * 2 + 1) (.int .i32 1)) 79 := by
      rw [← e]; exact h
    exact h2.drewN _

theorem keys2_take_succ {l : List Tab.NP} {k : Nat} (hk : k < l.length) : Tab.keys2 (l.take (k + 1)) = Tab.keys2 (l.take k) ++ (if (l.getD k (0, 0)).2 != 0 then [l.getD k (0, 0)] else []) := by
  unfold Tab.keys2
  rw [List.take_succ_eq_append_getElem hk, List.filter_append, List.getD_eq_getElem?_getD, List.getElem?_eq_getElem hk]
  simp only [List.filter_cons, List.filter_nil, Option.getD_some]

/-- Each slot of the old table goes over. -/
theorem over_put {ts nts : List Tab.NP} {k m2 d : Nat} (ok : Tab.Ok2 hN nts) (hL : nts.length = m2) (hP : (Tab.keys2 nts).Perm (Tab.keys2 (ts.take k))) (hk : k < ts.length)
    (hl : (ts.getD k (0, 0)).2 ≠ 0) (hn : ((Tab.keys2 ts).map Prod.fst).Nodup) (hroom : (Tab.keys2 ts).length < m2)
    (hd : d < m2) (h0 : (nts.getD ((hN (ts.getD k (0, 0)).1 + d) % m2) (0, 0)).2 = 0) (hw : ∀ e, e < d → (nts.getD ((hN (ts.getD k (0, 0)).1 + e) % m2) (0, 0)).2 ≠ 0) :
    Tab.Ok2 hN (nts.set ((hN (ts.getD k (0, 0)).1 + d) % m2) (ts.getD k (0, 0))) ∧ (Tab.keys2 (nts.set ((hN (ts.getD k (0, 0)).1 + d) % m2) (ts.getD k (0, 0)))).Perm (Tab.keys2 (ts.take (k + 1))) := by
  have e1 := keys2_take_succ hk
  have hb : ((ts.getD k (0, 0)).2 != 0) = true := by simpa using hl
  rw [if_pos hb] at e1
  have hsub : (Tab.keys2 (ts.take (k + 1))).Sublist (Tab.keys2 ts) := List.Sublist.filter _ (List.take_sublist _ _)
  have hnd : ((Tab.keys2 (ts.take (k + 1))).map Prod.fst).Nodup := List.Sublist.nodup (hsub.map _) hn
  have hlen := hsub.length_le
  rw [e1, List.length_append] at hlen
  simp only [List.length_cons, List.length_nil] at hlen
  have hkl := hP.length_eq
  have hnk : (ts.getD k (0, 0)).1 ∉ (Tab.keys2 nts).map Prod.fst := by
    rw [(hP.map Prod.fst).mem_iff]
    rw [e1, List.map_append] at hnd
    intro hm
    exact (List.nodup_append.1 hnd).2.2 _ hm _ (by simp) rfl
  refine ⟨?_, ?_⟩
  · have := ok.put (ts.getD k (0, 0)) hl hnk d (by omega) (by rw [hL]; exact h0) (by rw [hL]; exact hw) (by omega)
    rw [hL] at this
    exact this
  · have hp := Tab.keys2_set (ts := nts) (s := (hN (ts.getD k (0, 0)).1 + d) % m2) (x := ts.getD k (0, 0)) (by rw [hL]; exact Nat.mod_lt _ (by omega)) h0 hl
    refine hp.trans ((List.Perm.cons _ hP).trans ?_)
    rw [e1]
    exact (List.perm_append_singleton _ _).symm
theorem over_skip {ts nts : List Tab.NP} {k : Nat} (hP : (Tab.keys2 nts).Perm (Tab.keys2 (ts.take k))) (hk : k < ts.length) (hl : (ts.getD k (0, 0)).2 = 0) : (Tab.keys2 nts).Perm (Tab.keys2 (ts.take (k + 1))) := by
  rw [keys2_take_succ hk, hl]; simpa using hP
theorem over_miss {ts nts : List Tab.NP} {k : Nat} (ok : Tab.Ok2 hN nts) (hP : (Tab.keys2 nts).Perm (Tab.keys2 (ts.take k))) (hk : k < ts.length)
    (hl : (ts.getD k (0, 0)).2 ≠ 0) (hn : ((Tab.keys2 ts).map Prod.fst).Nodup) : ∃ d, d < nts.length ∧ (nts.getD ((hN (ts.getD k (0, 0)).1 + d) % nts.length) (0, 0)).2 = 0 ∧ ∀ e, e < d → (nts.getD ((hN (ts.getD k (0, 0)).1 + e) % nts.length) (0, 0)).2 ≠ 0 := by
  have e1 := keys2_take_succ hk
  have hb : ((ts.getD k (0, 0)).2 != 0) = true := by simpa using hl
  rw [if_pos hb] at e1
  have hsub : (Tab.keys2 (ts.take (k + 1))).Sublist (Tab.keys2 ts) := List.Sublist.filter _ (List.take_sublist _ _)
  have hnd : ((Tab.keys2 (ts.take (k + 1))).map Prod.fst).Nodup := List.Sublist.nodup (hsub.map _) hn
  have hnk : (ts.getD k (0, 0)).1 ∉ (Tab.keys2 nts).map Prod.fst := by
    rw [(hP.map Prod.fst).mem_iff]
    rw [e1, List.map_append] at hnd
    intro hm
    exact (List.nodup_append.1 hnd).2.2 _ hm _ (by simp) rfl
  obtain ⟨d, hd, h0, hw⟩ := ok.miss _ hnk
  exact ⟨d, hd, h0, fun e he => (hw e he).1⟩

/-- What holds of memory while the table is made anew. -/
structure NI (w wr : World) (B S S2 : Nat) (cs : List Value) (t : TypeId) (ts nts : List Tab.NP) : Prop where
  up : Upto (fun k => k = B ∨ k = S) w wr
  b : Blk wr B cs t
  s : Blk wr S (Tab.pcells ts) 79
  s2 : Blk wr S2 (Tab.pcells nts) 79

theorem NI.alloc {w wr : World} {B S S2 : Nat} {cs : List Value} {t : TypeId} {ts nts : List Tab.NP} (h : NI w wr B S S2 cs t ts nts) (o : Obj) : NI w (wr.alloc o) B S S2 cs t ts nts :=
  ⟨h.up.alloc o, h.b.alloc o, h.s.alloc o, h.s2.alloc o⟩
theorem NI.put {w wr : World} {B S S2 : Nat} {cs : List Value} {t : TypeId} {ts nts : List Tab.NP} (h : NI w wr B S S2 cs t ts nts) (hB : B ≠ S2) (hS : S ≠ S2) (hS2 : w.heap.size ≤ S2) {j : Nat} (hj : j < nts.length) (x : Tab.NP) :
    NI w ((wr.setCell ⟨S2, j * 2, none⟩ (.int .u64 x.1)).setCell ⟨S2, j * 2 + 1, none⟩ (.int .i32 x.2)) B S S2 cs t ts (nts.set j x) := by
  refine ⟨(h.up.setCell (p := ⟨S2, j * 2, none⟩) (fun hh => absurd hh (by simp; omega)) _).setCell (p := ⟨S2, j * 2 + 1, none⟩) (fun hh => absurd hh (by simp; omega)) _, (h.b.other hB _).other hB _, (h.s.other hS _).other hS _, ?_⟩
  rw [← Tab.pcells_set _ _ _ hj]
  exact (h.s2.set _ _).set _ _

set_option maxRecDepth 100000 in
set_option maxHeartbeats 2000000 in
theorem num_grow (B o S p d m n : Nat) (cs : List Value) (t : TypeId) (ts : List Tab.NP) (a b : Int) (w : World) (ha : -2147483648 ≤ a ∧ a ≤ 2147483647) (hb : -2147483648 ≤ b ∧ b ≤ 2147483647) (hp : 2 ^ p = m) (hp2 : p + 1 ≤ 20) (hm : 2 * m ≤ 1048576) (hlen : ts.length = m)
    (hB : Blk w B cs t) (e0 : cs[o]? = some (.slice (some ⟨S, 0, none⟩) m m)) (e1 : cs[o + 1]? = some (.int .i32 n)) (hS : Blk w S (Tab.pcells ts) 79) (hBS : B ≠ S)
    (hd : d < m) (h0 : (ts.getD ((hN (pk a b) + d) % m) (0, 0)).2 = 0) (hn : n ≤ 1000000) (hroom : m < 2 * (n + 1)) (hroom2 : 2 * n ≤ m) (h64 : 64 ≤ m)
    (hw : ∀ e, e < d → (ts.getD ((hN (pk a b) + e) % m) (0, 0)).2 ≠ 0 ∧ (ts.getD ((hN (pk a b) + e) % m) (0, 0)).1 ≠ pk a b)
    (hkn : (Tab.keys2 ts).length = n) (hnd : ((Tab.keys2 ts).map Prod.fst).Nodup) (hnk : pk a b ∉ (Tab.keys2 ts).map Prod.fst)
    (hbd : ∀ x ∈ ts, x.2 ≠ 0 → 0 ≤ x.1 ∧ x.1 ≤ 18446744073709551615) :
    Calls Try.prog 36 #[.pointer (some ⟨B, o, none⟩), .int .i32 a, .int .i32 b] w fun e w' => e = .returned (.tuple #[.int .i32 n, .bool true]) ∧
      ∃ S2 : Nat, ∃ nts : List Tab.NP, w.heap.size ≤ S2 ∧ Upto (fun k => k = B ∨ k = S) w w' ∧ Blk w' B ((cs.set (o + 1) (.int .i32 (n + 1))).set o (.slice (some ⟨S2, 0, none⟩) (2 * m) (2 * m))) t ∧ Blk w' S2 (Tab.pcells nts) 79 ∧
        nts.length = 2 * m ∧ Tab.Ok2 hN nts ∧ (Tab.keys2 nts).Perm (Tab.keys2 (ts.set ((hN (pk a b) + d) % m) (pk a b, n + 1))) := by
  have hm1 : 1 ≤ m := by omega
  have c0 := hB.cell e0
  have c1 := hB.cell e1
  have f1 := hB.frozen (o + 1)
  have fS := hS.frozen
  have hBl := hB.lt
  have hSl := hS.lt
  obtain ⟨j, hj⟩ : ∃ j, j = (hN (pk a b) + d) % m := ⟨_, rfl⟩
  have HC := slot_any B o S p d m j ts (pk a b) w hp (by omega) (by omega) hlen (pk_bd a b) c0 hS hj hd (Or.inl h0) hw
  have hjm : j < m := by rw [hj]; exact Nat.mod_lt _ (by omega)
  have s0 := hS.cell (Tab.pcells_at0 ts j (by rw [hlen]; exact hjm))
  have s1 := hS.cell (Tab.pcells_at1 ts j (by rw [hlen]; exact hjm))
  rw [← hj] at h0
  rw [← hj]
  have hp2k := Tab.keys2_set (ts := ts) (s := j) (x := (pk a b, (n : Int) + 1)) (by rw [hlen]; exact hjm) h0 (by simp; omega)
  rw [h0] at s1
  generalize (ts.getD j (0, 0)).1 = v0 at s0
  obtain ⟨ts2, HT2⟩ : ∃ ts2, Hid (ts2 = ts.set j (pk a b, (n : Int) + 1)) := ⟨_, rfl⟩
  have HNd2 : Hid (((Tab.keys2 ts2).map Prod.fst).Nodup) := by
    show ((Tab.keys2 ts2).map Prod.fst).Nodup
    rw [HT2.out, (hp2k.map Prod.fst).nodup_iff]
    exact List.nodup_cons.2 ⟨hnk, hnd⟩
  have HK2 : Hid ((Tab.keys2 ts2).length = n + 1) := by
    show (Tab.keys2 ts2).length = n + 1
    rw [HT2.out, hp2k.length_eq, List.length_cons, hkn]
  have HL2 : Hid (ts2.length = m) := by
    show ts2.length = m
    rw [HT2.out, List.length_set]; exact hlen
  have HBd2 : Hid (∀ x ∈ ts2, x.2 ≠ 0 → 0 ≤ x.1 ∧ x.1 ≤ 18446744073709551615) := by
    intro x hx hx0
    rw [HT2.out] at hx
    rcases List.mem_or_eq_of_mem_set hx with h | h
    · exact hbd x h hx0
    · rw [h]; exact pk_bd a b
  rw [← HT2.out]
  have HCC : Hid (Calls Try.prog 41 #[.pointer (some ⟨B, o, none⟩), .int .u64 (pk a b)] w fun e w' => e = .returned (.int .u64 j) ∧ w = w') := HC
  have HB : Hid (Blk w B cs t) := hB
  have HS : Hid (Blk w S (Tab.pcells ts) 79) := hS
  have HL : Hid (ts.length = m) := hlen
  have HP : Hid (2 ^ p = m) := hp
  have E0 : Hid (cs[o]? = some (.slice (some ⟨S, 0, none⟩) m m)) := e0
  have E1 : Hid (cs[o + 1]? = some (.int .i32 n)) := e1
  clear HC hS hw h0 hj hp hlen hB e0 e1 hp2k hkn hnd hnk hbd
  obtain ⟨m2, hm2⟩ : ∃ m2 : Nat, 2 * (m : Int) = (m2 : Int) := ⟨2 * m, by omega⟩
  have HM2 : Hid (m2 = 2 * m) := by show m2 = 2 * m; omega
  have hm2b : m2 ≤ 1048576 := by omega
  have hm264 : 64 ≤ m2 := by omega
  rw [← HM2.out]
  have hmk := make55 m2 hm2b
  go_enter Try.func36, Try.ntmps36
  go_wp2_with (first | (go_at_call 40; refine (pairKey_any _ _ _ ha hb).mono ?_; rintro e w' ⟨rfl, rfl⟩) | (go_at_call 41; refine HCC.out.mono ?_; rintro e w' ⟨rfl, rfl⟩))
  go_region
  go_wp2
  go_quiet (fail)
  go_wp2
  obtain ⟨S2, HS2e⟩ : ∃ S2, Hid (S2 = w.heap.size) := ⟨_, rfl⟩
  rw [← HS2e.out]
  have hBS2 : B ≠ S2 := by have := HS2e.out; omega
  have hSS2 : S ≠ S2 := by have := HS2e.out; omega
  have HN0 : Hid (NI w (((((w.setCell { block := B, off := o + 1 } (Value.int IntKind.i32 (↑n + 1))).setCell { block := S, off := j * 2 } (Value.int IntKind.u64 (pk a b))).setCell { block := S, off := j * 2 + 1 } (Value.int IntKind.i32 (↑n + 1))).drewN (1 + nq)).alloc (Obj.cells (Tab.pcells (List.replicate m2 (0, 0))).toArray 79)) B S S2 (cs.set (o + 1) (.int .i32 (n + 1))) t ts2 (List.replicate m2 (0, 0))) := by
    refine ⟨?_, ?_, ?_, ?_⟩
    · exact (((((Upto.refl (fun k => k = B ∨ k = S) w).setCell (p := ⟨B, o + 1, none⟩) (fun _ => Or.inl rfl) _).setCell (p := ⟨S, j * 2, none⟩) (fun _ => Or.inr rfl) _).setCell (p := ⟨S, j * 2 + 1, none⟩) (fun _ => Or.inr rfl) _).drewN _).alloc _
    · exact ((((HB.out.set (o + 1) (.int .i32 (n + 1))).other (a := ⟨S, j * 2, none⟩) hBS _).other (a := ⟨S, j * 2 + 1, none⟩) hBS _).drewN _).alloc _
    · rw [HT2.out, ← Tab.pcells_set ts j _ (by rw [HL.out]; exact hjm)]
      exact ((((HS.out.other (a := ⟨B, o + 1, none⟩) (Ne.symm hBS) _).set (j * 2) _).set (j * 2 + 1) _).drewN _).alloc _
    · have h := Blk.new ((((w.setCell { block := B, off := o + 1 } (Value.int IntKind.i32 (↑n + 1))).setCell { block := S, off := j * 2 } (Value.int IntKind.u64 (pk a b))).setCell { block := S, off := j * 2 + 1 } (Value.int IntKind.i32 (↑n + 1))).drewN (1 + nq)) (Tab.pcells (List.replicate m2 (0, 0))) 79
      have hz : ((((w.setCell { block := B, off := o + 1 } (Value.int IntKind.i32 (↑n + 1))).setCell { block := S, off := j * 2 } (Value.int IntKind.u64 (pk a b))).setCell { block := S, off := j * 2 + 1 } (Value.int IntKind.i32 (↑n + 1))).drewN (1 + nq)).heap.size = w.heap.size := by
        show (((w.setCell _ _).setCell _ _).setCell _ _).heap.size = _
        simp
      rw [hz, ← HS2e.out] at h
      exact h
  clear c0 c1 f1 fS s0 s1 hmk
  go_loopw [96] (fun i w3 => ∃ k : Nat, ∃ nts : List Tab.NP, k ≤ m ∧ i = .int .i64 k ∧ Hid (NI w w3 B S S2 (cs.set (o + 1) (.int .i32 (n + 1))) t ts2 nts) ∧ Hid (nts.length = m2) ∧ Hid (Tab.Ok2 hN nts) ∧ Hid ((Tab.keys2 nts).Perm (Tab.keys2 (ts2.take k)))) (fun i _ => m - (intOf i).toNat)
  case atStart => exact ⟨0, _, Nat.zero_le _, rfl, HN0, List.length_replicate, Tab.Ok2.empty hN m2 (by omega), by show (Tab.keys2 (List.replicate m2 (0, 0))).Perm _; rw [Tab.keys2_replicate]; exact List.Perm.refl _⟩
  case round =>
    clear HN0
    obtain ⟨k, nts, hk, rfl, HN, HNL, HOK, HPm⟩ := hrel
    have hS2l : S2 < wr.heap.size := HN.out.s2.lt
    by_cases hlt : k < m
    · have hk2 : k < ts2.length := by rw [HL2.out]; exact hlt
      have s0 := HN.out.s.cell (Tab.pcells_at0 ts2 k hk2)
      have s1 := HN.out.s.cell (Tab.pcells_at1 ts2 k hk2)
      have fS2 := HN.out.s2.frozen
      have hxb0 := HBd2.out _ (Tab.mem_of_getD2 (ts := ts2) (i := k) hk2)
      by_cases hy : (ts2.getD k (0, 0)).2 = 0
      · have HPm' : Hid ((Tab.keys2 nts).Perm (Tab.keys2 (ts2.take (k + 1)))) := over_skip HPm.out hk2 hy
        rw [hy] at s1
        clear hk2 hy hxb0
        generalize ts2.getD k (0, 0) = x at s0
        obtain ⟨x1, x2⟩ := x
        dsimp only at s0
        go_wp2
        go_roundw
        case rel => exact ⟨k + 1, nts, by omega, by go_num, HN.out.alloc _, HNL, HOK, HPm'⟩
        case measure => simp [intOf]; omega
      · obtain ⟨d2, hd2, h02, hw2⟩ := over_miss HOK.out HPm.out hk2 hy HNd2.out
        rw [HNL.out] at hd2 h02 hw2
        have HQ : Hid (Tab.Ok2 hN (nts.set ((hN (ts2.getD k (0, 0)).1 + d2) % m2) (ts2.getD k (0, 0))) ∧ (Tab.keys2 (nts.set ((hN (ts2.getD k (0, 0)).1 + d2) % m2) (ts2.getD k (0, 0)))).Perm (Tab.keys2 (ts2.take (k + 1)))) := over_put HOK.out HNL.out HPm.out hk2 hy HNd2.out (by rw [HK2.out]; omega) hd2 h02 hw2
        have H02 : Hid ((nts.getD ((hN (ts2.getD k (0, 0)).1 + d2) % m2) (0, 0)).2 = 0) := h02
        have HW2 : Hid (∀ e, e < d2 → (nts.getD ((hN (ts2.getD k (0, 0)).1 + e) % m2) (0, 0)).2 ≠ 0) := hw2
        have hxb := hxb0 hy
        clear h02 hw2 hk2 hxb0
        generalize ts2.getD k (0, 0) = x at s0 s1 hxb hy HQ H02 HW2
        obtain ⟨x1, x2⟩ := x
        dsimp only at s0 s1 hxb hy HQ H02 HW2
        obtain ⟨hx1, hx2⟩ := hxb
        have hy' : (x2 == 0) = false := by simpa using hy
        clear hy
        go_wp2_with (go_at_call 42; refine (pairHash_any x1 _ ⟨hx1, hx2⟩).mono ?_; rintro e w' ⟨rfl, rfl⟩)
        go_loop [14] (fun v => ∃ e j : Nat, e ≤ d2 ∧ j < m2 ∧ Hid (j = (hN x1 + e) % m2) ∧ v = .int .u64 j) (fun v => gap m2 ((hN x1 + d2) % m2) (intOf v).toNat)
        case atStart => exact ⟨0, _, Nat.zero_le _, Nat.mod_lt _ (by omega), rfl, by rw [mask0 (p + 1) m2 (by rw [HM2.out, Nat.pow_succ, HP.out]; omega) hp2]⟩
        case round =>
          obtain ⟨e2, j2, he2, hj2, HJ2, rfl⟩ := hrel
          have HP2 : Hid (2 ^ (p + 1) = m2) := by show 2 ^ (p + 1) = m2; rw [HM2.out, Nat.pow_succ, HP.out]; omega
          have t0 := HN.out.s2.cell (Tab.pcells_at0 nts j2 (by rw [HNL.out]; exact hj2))
          have t1 := HN.out.s2.cell (Tab.pcells_at1 nts j2 (by rw [HNL.out]; exact hj2))
          by_cases hlt2 : e2 < d2
          · have hv := HW2.out e2 hlt2
            rw [← HJ2.out] at hv
            generalize (nts.getD j2 (0, 0)).1 = v1 at t0
            generalize (nts.getD j2 (0, 0)).2 = v2 at t1 hv
            have hv' : (v2 != 0) = true := by simpa using hv
            clear hv
            go_wp2
            go_round
            case rel => exact ⟨e2 + 1, _, by omega, Nat.mod_lt _ (by omega), rfl, by rw [← mask1 (p + 1) m2 HP2.out hp2, ← HJ2.out]⟩
            case measure =>
              simp only [intOf]
              rw [HJ2.out, mask1 (p + 1) m2 HP2.out hp2, Int.toNat_natCast, Int.toNat_natCast, gap_eq _ _ _ _ hlt2 hd2, gap_eq _ _ _ _ he2 hd2]
              omega
          · have hv := H02.out
            have ed : e2 = d2 := by omega
            rw [← ed, ← HJ2.out] at hv
            have HE2 : Hid (e2 = d2) := ed
            clear ed
            rw [hv] at t1
            clear hv
            generalize (nts.getD j2 (0, 0)).1 = v1 at t0
            go_wp2
            refine ⟨⟨_, _, .int .i64 (k + 1), ⟨k + 1, by omega, by go_num, nts.set j2 (x1, x2), (HN.out.put hBS2 hSS2 (by have := HS2e.out; omega) (by rw [HNL.out]; exact hj2) (x1, x2)).alloc _, by show (nts.set j2 (x1, x2)).length = m2; rw [List.length_set]; exact HNL.out, ?_, ?_⟩, rfl, rfl, rfl⟩, by simp [intOf]; omega⟩
            · rw [HJ2.out, HE2.out]; exact HQ.out.1
            · rw [HJ2.out, HE2.out]; exact HQ.out.2
    · have hkm : k = m := by omega
      have ol : o < cs.length := (List.getElem?_eq_some_iff.1 E0.out).1
      have ol1 : o + 1 < cs.length := (List.getElem?_eq_some_iff.1 E1.out).1
      have c0 : wr.cell? ⟨B, o, none⟩ = some (.slice (some ⟨S, 0, none⟩) m m) := HN.out.b.cell (by rw [List.getElem?_set_ne (by omega)]; exact E0.out)
      have c1 : wr.cell? ⟨B, o + 1, none⟩ = some (.int .i32 (n + 1)) := HN.out.b.cell (by rw [List.getElem?_set_self ol1])
      have f0 := HN.out.b.frozen o
      go_wp2
      go_ret2
      refine ⟨rfl, S2, nts, by have := HS2e.out; omega, HN.out.up.setCell (p := ⟨B, o, none⟩) (fun _ => Or.inl rfl) _, HN.out.b.set o _, HN.out.s2.other (Ne.symm hBS2) _, HNL.out, HOK.out, ?_⟩
      have := HPm.out
      rw [hkm, List.take_of_length_le (by rw [HL2.out]; omega)] at this
      exact this
end Go.Proofs.Qxb6600921a
