/-
  countOnce, the way on which the table is made anew (co_re).
-/
import Derived.Test.Qxb6600921aCo
import Derived.Deep.DeepCutAuto
namespace Go.Proofs.Qxb6600921a
open Go.RowKit
set_option linter.unusedVariables false

/-- What holds of memory while the table is made anew: the builder's block, the old table, 'into', and the captured variable. -/
structure RI (w wr : World) (B S I : Nat) (vi vs : Value) (n : Int) (vp : Value) (pn : Int) (vt : Value) (sl into : List Int) : Prop where
  up : Upto (fun k => k = B ∨ k = S) w wr
  b : Blk wr B (bl vi vs n vp pn vt) 72
  s : Ints wr S .u64 74 sl
  i : Ints wr I .i32 21 into
  x : Blk wr w.heap.size [.pointer (some ⟨B, 0, none⟩)] 44

theorem RI.count {w wr : World} {B S I : Nat} {vi vs : Value} {n : Int} {vp : Value} {pn : Int} {vt : Value} {sl into : List Int} (h : RI w wr B S I vi vs n vp pn vt sl into)
    (hSB : S ≠ B) (hIB : I ≠ B) (hB : B < w.heap.size) (n' : Int) : RI w (wr.setCell ⟨B, 7, none⟩ (.int .i64 n')) B S I vi vs n' vp pn vt sl into :=
  ⟨h.up.setCell (fun _ => Or.inl rfl) _, h.b.set 7 _, Blk.other h.s hSB _, Blk.other h.i hIB _, h.x.other (by simp; omega) _⟩

theorem live_as (p : Int) (X B I : Nat) (L : Nat) (zs : List Int) (v : Bool) (w : World) (hv : Hid (liveB zs p = v)) (hx : w.cell? ⟨X, 0, none⟩ = some (.pointer (some ⟨B, 0, none⟩)))
    (hp : 0 ≤ p ∧ p ≤ 18446744073709551615) (hi : w.cell? ⟨B, 5, none⟩ = some (.slice (some ⟨I, 0, none⟩) L L))
    (hz : ∀ i, i < L → w.cell? ⟨I, i, none⟩ = some (.int .i32 (zs.getD i 0)))
    (hl : p ≠ 0 → p / 4294967296 < L ∧ p % 4294967296 < L) :
    Calls Try.prog 43 #[.int .u64 p, .pointer (some ⟨X, 0, none⟩)] w fun e w' => e = .returned (.bool v) ∧ w = w' := by
  have := live_any p X B I L zs w hx hp hi hz hl
  rw [hv.out] at this
  exact this

theorem filter_take_succ {f : Int → Bool} {l : List Int} {k : Nat} (hk : k < l.length) : (l.take (k + 1)).filter f = (l.take k).filter f ++ (if f (l.getD k 0) then [l.getD k 0] else []) := by
  rw [List.take_succ_eq_append_getElem hk, List.filter_append, List.getD_eq_getElem?_getD, List.getElem?_eq_getElem hk]
  simp only [List.filter_cons, List.filter_nil, Option.getD_some]
theorem count_true {f : Int → Bool} {l : List Int} {k : Nat} (hk : k < l.length) (h : f (l.getD k 0) = true) : ((l.take (k + 1)).filter f).length = ((l.take k).filter f).length + 1 := by
  rw [filter_take_succ hk, if_pos h]; simp
theorem count_false {f : Int → Bool} {l : List Int} {k : Nat} (hk : k < l.length) (h : f (l.getD k 0) = false) : ((l.take (k + 1)).filter f).length = ((l.take k).filter f).length := by
  rw [filter_take_succ hk, h]; simp

theorem RI.put {w wr : World} {B S I : Nat} {vi vs : Value} {n : Int} {vp : Value} {pn : Int} {vt : Value} {sl into : List Int} (h : RI w wr B S I vi vs n vp pn vt sl into)
    (hS : S < w.heap.size) (hI : I < w.heap.size) (hB : B < w.heap.size) {g j : Nat} (hg : w.heap.size < g) (v : Value) : RI w (wr.setCell ⟨g, j, none⟩ v) B S I vi vs n vp pn vt sl into :=
  ⟨h.up.setCell (p := ⟨g, j, none⟩) (fun hh => absurd hh (by simp; omega)) _, h.b.other (by simp; omega) _, Blk.other h.s (by simp; omega) _, Blk.other h.i (by simp; omega) _, h.x.other (by simp; omega) _⟩

theorem filter_sub {f : Int → Bool} (hf : ∀ x, f x = true → x ≠ 0) (l : List Int) : (l.filter f).Sublist (Tab.keys l) := by
  unfold Tab.keys
  induction l with
  | nil => simp
  | cons a l ih =>
    rw [List.filter_cons, List.filter_cons]
    by_cases h : f a = true
    · rw [if_pos h, if_pos (by simpa using hf a h)]; exact ih.cons_cons a
    · rw [if_neg h]
      split
      · exact ih.cons a
      · exact ih
theorem live_ne {into : List Int} (x : Int) (h : liveB into x = true) : x ≠ 0 := by
  intro e; subst e; simp [liveB] at h
theorem fresh_at {f : Int → Bool} (hf : ∀ x, f x = true → x ≠ 0) {l : List Int} (hn : (Tab.keys l).Nodup) {k : Nat} (hk : k < l.length) (hl : f (l.getD k 0) = true) : l.getD k 0 ∉ (l.take k).filter f := by
  have h1 : ((l.take (k + 1)).filter f).Nodup := by
    refine List.Sublist.nodup (List.Sublist.trans (List.Sublist.filter f (List.take_sublist _ _)) (filter_sub hf l)) hn
  rw [filter_take_succ hk, if_pos hl] at h1
  intro hm
  exact (List.nodup_append.1 h1).2.2 _ hm _ (by simp) rfl

theorem put_all {into sl2 nsl : List Int} {k c m2 d : Nat} (ok : Tab.Ok hN nsl) (hL : nsl.length = m2) (hP : (Tab.keys nsl).Perm ((sl2.take k).filter (liveB into))) (hk : k < sl2.length)
    (hl : liveB into (sl2.getD k 0) = true) (hn : (Tab.keys sl2).Nodup) (hc : c = (sl2.filter (liveB into)).length) (h2 : 2 * c ≤ m2) (h64 : 64 ≤ m2)
    (hd : d < m2) (h0 : nsl.getD ((hN (sl2.getD k 0) + d) % m2) 0 = 0) (hw : ∀ e, e < d → nsl.getD ((hN (sl2.getD k 0) + e) % m2) 0 ≠ 0) :
    Tab.Ok hN (nsl.set ((hN (sl2.getD k 0) + d) % m2) (sl2.getD k 0)) ∧ (Tab.keys (nsl.set ((hN (sl2.getD k 0) + d) % m2) (sl2.getD k 0))).Perm ((sl2.take (k + 1)).filter (liveB into)) := by
  have hfr := fresh_at live_ne hn hk hl
  have hnk : sl2.getD k 0 ∉ Tab.keys nsl := fun h => hfr (hP.mem_iff.1 h)
  have hlen : ((sl2.take (k + 1)).filter (liveB into)).length ≤ c := by
    rw [hc]; exact List.Sublist.length_le (List.Sublist.filter _ (List.take_sublist _ _))
  rw [count_true hk hl] at hlen
  have hkl := hP.length_eq
  refine ⟨?_, ?_⟩
  · have := ok.put (sl2.getD k 0) (live_ne _ hl) hnk d (by omega) (by rw [hL]; exact h0) (by rw [hL]; exact hw) (by omega)
    rw [hL] at this
    exact this
  · have hp := Tab.keys_set (sl := nsl) (s := (hN (sl2.getD k 0) + d) % m2) (k := sl2.getD k 0) (by rw [hL]; exact Nat.mod_lt _ (by omega)) h0 (live_ne _ hl)
    refine hp.trans ((List.Perm.cons _ hP).trans ?_)
    rw [filter_take_succ hk, if_pos hl]
    exact (List.perm_append_singleton _ _).symm
theorem keep_all {into sl2 nsl : List Int} {k : Nat} (hP : (Tab.keys nsl).Perm ((sl2.take k).filter (liveB into))) (hk : k < sl2.length)
    (hl : liveB into (sl2.getD k 0) = false) : (Tab.keys nsl).Perm ((sl2.take (k + 1)).filter (liveB into)) := by
  rw [filter_take_succ hk, hl]; simpa using hP
theorem miss_all {into sl2 nsl : List Int} {k : Nat} (ok : Tab.Ok hN nsl) (hP : (Tab.keys nsl).Perm ((sl2.take k).filter (liveB into))) (hk : k < sl2.length)
    (hl : liveB into (sl2.getD k 0) = true) (hn : (Tab.keys sl2).Nodup) : ∃ d, d < nsl.length ∧ nsl.getD ((hN (sl2.getD k 0) + d) % nsl.length) 0 = 0 ∧ ∀ e, e < d → nsl.getD ((hN (sl2.getD k 0) + e) % nsl.length) 0 ≠ 0 := by
  have hnk : sl2.getD k 0 ∉ Tab.keys nsl := fun h => fresh_at live_ne hn hk hl (hP.mem_iff.1 h)
  obtain ⟨d, hd, h0, hw⟩ := ok.miss _ hnk
  exact ⟨d, hd, h0, fun e he => (hw e he).1⟩

set_option maxRecDepth 100000 in
set_option maxHeartbeats 1000000 in
theorem co_re (B S I T p n d : Nat) (into : List Int) (vp vt : Value) (pn l r : Int) (sl : List Int) (w : World)
    (hl : 0 ≤ l ∧ l ≤ 65536) (hr : 0 ≤ r ∧ r ≤ 65536) (m : Nat) (hp : 2 ^ p = m) (hp2 : p ≤ 20) (hm : m ≤ 1048576) (hlen : sl.length = m)
    (hB : Blk w B (bl (.slice (some ⟨I, 0, none⟩) T T) (.slice (some ⟨S, 0, none⟩) m m) n vp pn vt) 72) (hS : Ints w S .u64 74 sl) (hBS : B ≠ S)
    (hd : d < m) (h0 : sl.getD ((hN (pk l r) + d) % m) 0 = 0)
    (hw : ∀ e, e < d → sl.getD ((hN (pk l r) + e) % m) 0 ≠ 0 ∧ sl.getD ((hN (pk l r) + e) % m) 0 ≠ pk l r) (hroom : m < 2 * (n + 1)) (hroom2 : 2 * n ≤ m) (hI : Ints w I .i32 21 into) (hIB : I ≠ B) (hIS : I ≠ S) (hT : into.length = T) (hnd : (Tab.keys sl).Nodup) (hkn : pk l r ∉ Tab.keys sl) (hk0 : pk l r ≠ 0) (hbd : ∀ x ∈ sl, x ≠ 0 → 0 ≤ x ∧ x / 4294967296 < T ∧ x % 4294967296 < T) (hkb : pk l r / 4294967296 < T ∧ pk l r % 4294967296 < T) (hm64 : 64 ≤ m) (hp3 : p + 1 ≤ 20) (hm3 : 2 * m ≤ 1048576) (hT2 : T ≤ 65536) :
    Calls Try.prog 38 #[.pointer (some ⟨B, 0, none⟩), .int .i32 l, .int .i32 r] w fun e w' => e = .returned (.bool true) ∧
      ∃ S2 m2 p2 c : Nat, ∃ nsl : List Int, 2 ^ p2 = m2 ∧ p2 ≤ 20 ∧ 64 ≤ m2 ∧ 2 * c ≤ m2 ∧ (m2 = m ∨ (m2 = 2 * m ∧ m2 < 8 * c)) ∧ w.heap.size < S2 ∧ Upto (fun k => k = B ∨ k = S) w w' ∧
        Blk w' B (bl (.slice (some ⟨I, 0, none⟩) T T) (.slice (some ⟨S2, 0, none⟩) m2 m2) c vp pn vt) 72 ∧ Ints w' S2 .u64 74 nsl ∧ nsl.length = m2 ∧ Tab.Ok hN nsl ∧ (Tab.keys nsl).length = c ∧
        (Tab.keys nsl).Perm ((sl.set ((hN (pk l r) + d) % m) (pk l r)).filter (liveB into)) := by
  have hBl := hB.lt
  have hSl := Blk.lt hS
  have c6 : w.cell? ⟨B, 6, none⟩ = some (.slice (some ⟨S, 0, none⟩) m m) := hB.cell rfl
  have c7 : w.cell? ⟨B, 7, none⟩ = some (.int .i64 n) := hB.cell rfl
  have f7 := hB.frozen 7
  have fS := Blk.frozen hS
  have HB : Hid (Blk w B (bl (.slice (some ⟨I, 0, none⟩) T T) (.slice (some ⟨S, 0, none⟩) m m) n vp pn vt) 72) := hB
  have HS : Hid (Ints w S .u64 74 sl) := hS
  have HP : Hid (2 ^ p = m) := hp
  have HL : Hid (sl.length = m) := hlen
  have hm1 : 1 ≤ m := by omega
  clear hB hS hp hlen
  have HI : Hid (Ints w I .i32 21 into) := hI
  have HT : Hid (into.length = T) := hT
  clear hI hT
  have HNd : Hid ((Tab.keys sl).Nodup) := hnd
  have HKn : Hid (pk l r ∉ Tab.keys sl) := hkn
  have HBd : Hid (∀ x ∈ sl, x ≠ 0 → 0 ≤ x ∧ x / 4294967296 < T ∧ x % 4294967296 < T) := hbd
  clear hnd hkn hbd
  have HW : Hid (∀ e, e < d → sl.getD ((hN (pk l r) + e) % m) 0 ≠ 0 ∧ sl.getD ((hN (pk l r) + e) % m) 0 ≠ pk l r) := hw
  have H0 : Hid (sl.getD ((hN (pk l r) + d) % m) 0 = 0) := h0
  clear hw h0
  go_enter Try.func38, Try.ntmps38
  go_wp2_with (first | (go_at_call 40; refine (pairKey_any _ _ _ (by omega) (by omega)).mono ?_; rintro e w' ⟨rfl, rfl⟩) | (go_at_call 42; refine (pairHash_any _ _ (pk_bd _ _)).mono ?_; rintro e w' ⟨rfl, rfl⟩))
  go_loop [10] (fun k => ∃ e j : Nat, e ≤ d ∧ j < m ∧ Hid (j = (hN (pk l r) + e) % m) ∧ k = .int .u64 j) (fun k => gap m ((hN (pk l r) + d) % m) (intOf k).toNat)
  case atStart => exact ⟨0, _, Nat.zero_le _, Nat.mod_lt _ hm1, rfl, by rw [mask0 p m HP.out hp2]⟩
  case round =>
    obtain ⟨e, j, he, hj, HJ, rfl⟩ := hrel
    have cj := HS.out.cell (i := j) (by rw [HL.out]; exact hj)
    by_cases hlt : e < d
    · have hv := HW.out e hlt
      rw [← HJ.out] at hv
      generalize sl.getD j 0 = v at cj hv
      obtain ⟨hv0, hv1⟩ := hv
      go_wp2
      go_round
      case rel => exact ⟨e + 1, _, by omega, Nat.mod_lt _ hm1, rfl, by rw [← mask1 p m HP.out hp2, ← HJ.out]⟩
      case measure =>
        simp only [intOf]
        rw [HJ.out, mask1 p m HP.out hp2, Int.toNat_natCast, Int.toNat_natCast, gap_eq _ _ _ _ hlt hd, gap_eq _ _ _ _ he hd]
        omega
    · have hv := H0.out
      have ed : e = d := by omega
      rw [← ed, ← HJ.out] at hv
      have HE : Hid (e = d) := ed
      clear ed
      rw [hv] at cj
      clear hv
      go_wp2
      go_quiet (fail)
      go_wp2
      obtain ⟨sl2, HS2, HL2⟩ : ∃ sl2, Hid (sl2 = sl.set j (pk l r)) ∧ Hid (sl2.length = m) := ⟨_, rfl, by show (sl.set j (pk l r)).length = m; rw [List.length_set]; exact HL.out⟩
      have HR : Hid (RI w (((((w.setCell { block := S, off := j } (Value.int IntKind.u64 (pk l r))).setCell { block := B, off := 7 } (Value.int IntKind.i64 (↑n + 1))).alloc (Obj.cells #[Value.pointer (some { block := B, off := 0 })] 44)).drewN nq).setCell { block := B, off := 7 } (Value.int IntKind.i64 0)) B S I (.slice (some ⟨I, 0, none⟩) T T) (.slice (some ⟨S, 0, none⟩) m m) 0 vp pn vt sl2 into) := by
        refine ⟨?_, ?_, ?_, ?_, ?_⟩
        · exact (((((Upto.refl (fun k => k = B ∨ k = S) w).setCell (p := ⟨S, j, none⟩) (fun _ => Or.inr rfl) _).setCell (p := ⟨B, 7, none⟩) (fun _ => Or.inl rfl) _).alloc _).drewN _).setCell (p := ⟨B, 7, none⟩) (fun _ => Or.inl rfl) _
        · exact ((((HB.out.other (a := ⟨S, j, none⟩) hBS _).set 7 (.int .i64 (n + 1))).alloc _).drewN nq).set 7 (.int .i64 0)
        · rw [HS2.out]
          exact ((((Blk.other (a := ⟨B, 7, none⟩) (HS.out.set j (pk l r)) (Ne.symm hBS) _)).alloc _).drewN nq).other (Ne.symm hBS) _
        · exact (((Blk.other (a := ⟨B, 7, none⟩) (Blk.other (a := ⟨S, j, none⟩) HI.out hIS _) hIB _).alloc _).drewN nq).other hIB _
        · have hz : ((w.setCell { block := S, off := j } (Value.int IntKind.u64 (pk l r))).setCell { block := B, off := 7 } (Value.int IntKind.i64 (↑n + 1))).heap.size = w.heap.size := by simp
          have h := Blk.new ((w.setCell { block := S, off := j } (Value.int IntKind.u64 (pk l r))).setCell { block := B, off := 7 } (Value.int IntKind.i64 (↑n + 1))) [.pointer (some ⟨B, 0, none⟩)] 44
          rw [hz] at h
          exact (h.drewN nq).other (by simp; omega) _
      have HBd2 : Hid (∀ x ∈ sl2, 0 ≤ x ∧ x ≤ 18446744073709551615 ∧ (x ≠ 0 → x / 4294967296 < T ∧ x % 4294967296 < T)) := by
        intro x hx
        rw [HS2.out] at hx
        have hb := pk_bd l r
        rcases List.mem_or_eq_of_mem_set hx with h | h
        · by_cases hx0 : x = 0
          · subst hx0; exact ⟨by omega, by omega, fun h => absurd rfl h⟩
          · have := HBd.out x h hx0
            exact ⟨this.1, by omega, fun _ => this.2⟩
        · subst h; exact ⟨hb.1, hb.2, fun _ => hkb⟩
      have HNd2 : Hid ((Tab.keys sl2).Nodup) := by
        have hv := H0.out
        have hj' : j = (hN (pk l r) + d) % m := HJ.out.trans (by rw [HE.out])
        rw [← hj'] at hv
        have hp := Tab.keys_set (sl := sl) (s := j) (k := pk l r) (by rw [HL.out]; exact hj) hv hk0
        show (Tab.keys sl2).Nodup
        rw [HS2.out, hp.nodup_iff]
        exact List.nodup_cons.2 ⟨HKn.out, HNd.out⟩
      go_loopw [101] (fun i wr => ∃ k c : Nat, k ≤ m ∧ i = .int .i64 k ∧ Hid (c = ((sl2.take k).filter (liveB into)).length) ∧ c ≤ k ∧ Hid (RI w wr B S I (.slice (some ⟨I, 0, none⟩) T T) (.slice (some ⟨S, 0, none⟩) m m) c vp pn vt sl2 into)) (fun i _ => m - (intOf i).toNat)
      case atStart => exact ⟨0, 0, Nat.zero_le _, rfl, rfl, Nat.le_refl _, HR⟩
      case round =>
        obtain ⟨k, c, hk, rfl, HC, hck, HR⟩ := hrel
        have hSB' := Ne.symm hBS
        by_cases hlt : k < m
        · have ck := HR.out.s.cell (i := k) (by rw [HL2.out]; exact hlt)
          have cx : wr.cell? ⟨w.heap.size, 0, none⟩ = some (.pointer (some ⟨B, 0, none⟩)) := HR.out.x.cell rfl
          have c5 : wr.cell? ⟨B, 5, none⟩ = some (.slice (some ⟨I, 0, none⟩) T T) := HR.out.b.cell rfl
          have c7' : wr.cell? ⟨B, 7, none⟩ = some (.int .i64 c) := HR.out.b.cell rfl
          have f7' := HR.out.b.frozen 7
          have hz : Hid (∀ i, i < T → wr.cell? ⟨I, i, none⟩ = some (.int .i32 (into.getD i 0))) := fun i hi => HR.out.i.cell (by rw [HT.out]; exact hi)
          obtain ⟨hx1, hx2, hx3⟩ := HBd2.out _ (Tab.mem_of_getD (sl := sl2) (i := k) (by rw [HL2.out]; exact hlt))
          cases hlv : liveB into (sl2.getD k 0)
          · have HC' : Hid (c = ((sl2.take (k + 1)).filter (liveB into)).length) := HC.out.trans (count_false (by rw [HL2.out]; exact hlt) hlv).symm
            generalize sl2.getD k 0 = x at ck hx1 hx2 hx3 hlv
            have HV : Hid (liveB into x = false) := hlv
            have HX3 : Hid (x ≠ 0 → x / 4294967296 < T ∧ x % 4294967296 < T) := hx3
            clear hlv hx3
            go_wp2_with (go_at_call 43; refine (live_as x w.heap.size B I T into false _ HV cx ⟨hx1, hx2⟩ c5 hz.out HX3.out).mono ?_; rintro e w' ⟨rfl, rfl⟩)
            go_roundw
            case rel => exact ⟨k + 1, c, by omega, by go_num, HC', by omega, HR⟩
            case measure => simp [intOf]; omega
          · have HC' : Hid (c + 1 = ((sl2.take (k + 1)).filter (liveB into)).length) := (congrArg (· + 1) HC.out).trans (count_true (by rw [HL2.out]; exact hlt) hlv).symm
            generalize sl2.getD k 0 = x at ck hx1 hx2 hx3 hlv
            have HV : Hid (liveB into x = true) := hlv
            have HX3 : Hid (x ≠ 0 → x / 4294967296 < T ∧ x % 4294967296 < T) := hx3
            clear hlv hx3
            go_wp2_with (go_at_call 43; refine (live_as x w.heap.size B I T into true _ HV cx ⟨hx1, hx2⟩ c5 hz.out HX3.out).mono ?_; rintro e w' ⟨rfl, rfl⟩)
            go_roundw
            case rel => exact ⟨k + 1, c + 1, by omega, by go_num, HC', by omega, HR.out.count hSB' hIB hBl _⟩
            case measure => simp [intOf]; omega
        · have hkm : k = m := by omega
          have HCm : Hid (c = (sl2.filter (liveB into)).length) := by
            have := HC.out; rw [hkm, List.take_of_length_le (by rw [HL2.out]; omega)] at this; exact this
          have c6' : wr.cell? ⟨B, 6, none⟩ = some (.slice (some ⟨S, 0, none⟩) m m) := HR.out.b.cell rfl
          have c7' : wr.cell? ⟨B, 7, none⟩ = some (.int .i64 c) := HR.out.b.cell rfl
          have hwrs : w.heap.size < wr.heap.size := HR.out.x.lt
          clear hkm HC
          go_upto_if 127 with (fail)
          go_cut [14] (fun v wc => ∃ m2 p2 : Nat, v = .int .i64 m2 ∧ Hid (2 ^ p2 = m2) ∧ p2 ≤ 20 ∧ 64 ≤ m2 ∧ m2 ≤ 1048576 ∧ 2 * c ≤ m2 ∧ Hid (m2 = m ∨ (m2 = 2 * m ∧ m2 < 8 * c)) ∧ wr = wc)
          case first =>
            by_cases h4 : m < 4 * c
            · go_wp2
              go_meet
              case rel => exact ⟨2 * m, p + 1, by go_num, by show 2 ^ (p + 1) = 2 * m; rw [Nat.pow_succ, HP.out]; omega, by omega, by omega, by omega, by omega, Or.inr ⟨rfl, by omega⟩, rfl⟩
            · go_wp2
              go_meet
              case rel => exact ⟨m, p, rfl, HP, by omega, by omega, by omega, by omega, Or.inl rfl, rfl⟩
          case rest =>
            obtain ⟨m2, p2, rfl, HP2, hp22, hm264, hm2b, h2c, HM2, rfl⟩ := hcut
            have hmk := make60 m2 hm2b
            have f6' := HR.out.b.frozen 6
            have hBr : B < wr.heap.size := by omega
            have hgs : w.heap.size < wr.heap.size := HR.out.x.lt
            have hIl : I < w.heap.size := Blk.lt HI.out
            obtain ⟨S2, HS2e⟩ : ∃ S2, Hid (S2 = wr.heap.size) := ⟨_, rfl⟩
            have hS2 : w.heap.size < S2 := by have := HS2e.out; omega
            have hBS2 : B ≠ S2 := by omega
            have HR3 : Hid (RI w ((wr.setCell { block := B, off := 6 } (Value.slice (some { block := S2, off := 0 }) m2 m2)).alloc (Obj.cells (madeCells #[Value.int IntKind.u64 0] m2) 74)) B S I (.slice (some ⟨I, 0, none⟩) T T) (.slice (some ⟨S2, 0, none⟩) m2 m2) c vp pn vt sl2 into) := by
              refine ⟨?_, ?_, ?_, ?_, ?_⟩
              · exact ((HR.out.up.setCell (p := ⟨B, 6, none⟩) (fun _ => Or.inl rfl) _).alloc _)
              · exact (HR.out.b.set 6 _).alloc _
              · exact (Blk.other HR.out.s hSB' _).alloc _
              · exact (Blk.other HR.out.i hIB _).alloc _
              · exact (HR.out.x.other (by simp; omega) _).alloc _
            have HN3 : Hid (Ints ((wr.setCell { block := B, off := 6 } (Value.slice (some { block := S2, off := 0 }) m2 m2)).alloc (Obj.cells (madeCells #[Value.int IntKind.u64 0] m2) 74)) S2 .u64 74 (List.replicate m2 0)) := by
              have := Ints.made (wr.setCell { block := B, off := 6 } (Value.slice (some { block := S2, off := 0 }) m2 m2)) .u64 74 m2
              rw [World.size_setCell, ← HS2e.out] at this
              exact this
            go_wp2
            rw [← HS2e.out]
            clear c6' c7' f6' hmk hwrs hgs hBr c6 c7 f7 fS
            go_loopw [144] (fun i w3 => ∃ k : Nat, ∃ nsl : List Int, k ≤ m ∧ i = .int .i64 k ∧ Hid (RI w w3 B S I (.slice (some ⟨I, 0, none⟩) T T) (.slice (some ⟨S2, 0, none⟩) m2 m2) c vp pn vt sl2 into) ∧ Hid (Ints w3 S2 .u64 74 nsl) ∧ Hid (nsl.length = m2) ∧ Hid (Tab.Ok hN nsl) ∧ Hid ((Tab.keys nsl).Perm ((sl2.take k).filter (liveB into)))) (fun i _ => m - (intOf i).toNat)
            case atStart => exact ⟨0, _, Nat.zero_le _, rfl, HR3, HN3, List.length_replicate, Tab.Ok.empty hN m2 (by omega), by show (Tab.keys (List.replicate m2 0)).Perm _; rw [Tab.keys_replicate]; exact List.Perm.refl _⟩
            case round =>
              clear HR3 HN3 HR
              obtain ⟨k, nsl, hk, rfl, HR, HN, HNL, HOK, HPm⟩ := hrel
              by_cases hlt : k < m
              · have ck := HR.out.s.cell (i := k) (by rw [HL2.out]; exact hlt)
                have cx : wr.cell? ⟨w.heap.size, 0, none⟩ = some (.pointer (some ⟨B, 0, none⟩)) := HR.out.x.cell rfl
                have c5 : wr.cell? ⟨B, 5, none⟩ = some (.slice (some ⟨I, 0, none⟩) T T) := HR.out.b.cell rfl
                have c6' : wr.cell? ⟨B, 6, none⟩ = some (.slice (some ⟨S2, 0, none⟩) m2 m2) := HR.out.b.cell rfl
                have hz : Hid (∀ i, i < T → wr.cell? ⟨I, i, none⟩ = some (.int .i32 (into.getD i 0))) := fun i hi => HR.out.i.cell (by rw [HT.out]; exact hi)
                have fS2 := Blk.frozen HN.out
                obtain ⟨hx1, hx2, hx3⟩ := HBd2.out _ (Tab.mem_of_getD (sl := sl2) (i := k) (by rw [HL2.out]; exact hlt))
                have hk2 : k < sl2.length := by rw [HL2.out]; exact hlt
                cases hlv : liveB into (sl2.getD k 0)
                · have HPm' : Hid ((Tab.keys nsl).Perm ((sl2.take (k + 1)).filter (liveB into))) := keep_all HPm.out hk2 hlv
                  clear hk2
                  generalize sl2.getD k 0 = x at ck hx1 hx2 hx3 hlv
                  have HV : Hid (liveB into x = false) := hlv
                  have HX3 : Hid (x ≠ 0 → x / 4294967296 < T ∧ x % 4294967296 < T) := hx3
                  clear hlv hx3
                  go_wp2_with (go_at_call 43; refine (live_as x w.heap.size B I T into false _ HV cx ⟨hx1, hx2⟩ c5 hz.out HX3.out).mono ?_; rintro e w' ⟨rfl, rfl⟩)
                  go_roundw
                  case rel => exact ⟨k + 1, nsl, by omega, by go_num, HR, HN, HNL, HOK, HPm'⟩
                  case measure => simp [intOf]; omega
                · obtain ⟨d2, hd2, h02, hw2⟩ := miss_all HOK.out HPm.out hk2 hlv HNd2.out
                  rw [HNL.out] at hd2 h02 hw2
                  have HQ : Hid (Tab.Ok hN (nsl.set ((hN (sl2.getD k 0) + d2) % m2) (sl2.getD k 0)) ∧ (Tab.keys (nsl.set ((hN (sl2.getD k 0) + d2) % m2) (sl2.getD k 0))).Perm ((sl2.take (k + 1)).filter (liveB into))) := put_all HOK.out HNL.out HPm.out hk2 hlv HNd2.out HCm.out h2c hm264 hd2 h02 hw2
                  clear hk2
                  have H02 : Hid (nsl.getD ((hN (sl2.getD k 0) + d2) % m2) 0 = 0) := h02
                  have HW2 : Hid (∀ e, e < d2 → nsl.getD ((hN (sl2.getD k 0) + e) % m2) 0 ≠ 0) := hw2
                  clear h02 hw2
                  generalize sl2.getD k 0 = x at ck hx1 hx2 hx3 hlv HQ H02 HW2
                  have HV : Hid (liveB into x = true) := hlv
                  have HX3 : Hid (x ≠ 0 → x / 4294967296 < T ∧ x % 4294967296 < T) := hx3
                  clear hlv hx3
                  go_wp2_with (first | (go_at_call 43; refine (live_as x w.heap.size B I T into true _ HV cx ⟨hx1, hx2⟩ c5 hz.out HX3.out).mono ?_; rintro e w' ⟨rfl, rfl⟩) | (go_at_call 42; refine (pairHash_any x _ ⟨hx1, hx2⟩).mono ?_; rintro e w' ⟨rfl, rfl⟩))
                  go_loop [18] (fun v => ∃ e j : Nat, e ≤ d2 ∧ j < m2 ∧ Hid (j = (hN x + e) % m2) ∧ v = .int .u64 j) (fun v => gap m2 ((hN x + d2) % m2) (intOf v).toNat)
                  case atStart => exact ⟨0, _, Nat.zero_le _, Nat.mod_lt _ (by omega), rfl, by rw [mask0 p2 m2 HP2.out hp22]⟩
                  case round =>
                    obtain ⟨e2, j2, he2, hj2, HJ2, rfl⟩ := hrel
                    have cj := HN.out.cell (i := j2) (by rw [HNL.out]; exact hj2)
                    by_cases hlt2 : e2 < d2
                    · have hv := HW2.out e2 hlt2
                      rw [← HJ2.out] at hv
                      generalize nsl.getD j2 0 = v at cj hv
                      go_wp2
                      go_round
                      case rel => exact ⟨e2 + 1, _, by omega, Nat.mod_lt _ (by omega), rfl, by rw [← mask1 p2 m2 HP2.out hp22, ← HJ2.out]⟩
                      case measure =>
                        simp only [intOf]
                        rw [HJ2.out, mask1 p2 m2 HP2.out hp22, Int.toNat_natCast, Int.toNat_natCast, gap_eq _ _ _ _ hlt2 hd2, gap_eq _ _ _ _ he2 hd2]
                        omega
                    · have hv := H02.out
                      have ed : e2 = d2 := by omega
                      rw [← ed, ← HJ2.out] at hv
                      have HE2 : Hid (e2 = d2) := ed
                      clear ed
                      rw [hv] at cj
                      clear hv
                      go_wp2
                      go_roundw
                      case rel =>
                        refine ⟨k + 1, nsl.set j2 x, by omega, by go_num, HR.out.put hSl hIl hBl hS2 _, HN.out.set j2 x, by show (nsl.set j2 x).length = m2; rw [List.length_set]; exact HNL.out, ?_, ?_⟩
                        · rw [HJ2.out, HE2.out]; exact HQ.out.1
                        · rw [HJ2.out, HE2.out]; exact HQ.out.2
                      case measure => simp [intOf]; omega
              · have hkm : k = m := by omega
                go_wp2
                go_ret
                refine ⟨rfl, S2, m2, p2, c, nsl, HP2.out, hp22, hm264, h2c, HM2.out, hS2, HR.out.up, HR.out.b, HN.out, HNL.out, HOK.out, ?_, ?_⟩
                · have := HPm.out
                  rw [hkm, List.take_of_length_le (by rw [HL2.out]; omega)] at this
                  rw [this.length_eq]; exact HCm.out.symm
                · have := HPm.out
                  rw [hkm, List.take_of_length_le (by rw [HL2.out]; omega), HS2.out, HJ.out, HE.out] at this
                  exact this
end Go.Proofs.Qxb6600921a
