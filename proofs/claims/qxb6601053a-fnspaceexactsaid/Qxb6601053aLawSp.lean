/-
  FnSpaceExact: the walk of the law.
-/
import Derived.Test.Qxb6601053aSp
namespace Go.Proofs.Qxb6601053a
open Go.RowKit
set_option linter.unusedVariables false

theorem bytes18 (a : Option Addr) (len cap : Nat) (at_ : Int) (w : World) (h : len ≤ maxLen) (b : Bool) (hb : Hid (decide (len ≤ 1048576) = b)) :
    Calls Try.prog 18 #[.slice a len cap, .int .i64 at_] w fun e w' => e = .returned (.bool b) ∧ w = w' := by
  have hb' := hb.out
  clear hb
  unfold maxLen at h
  by_cases c1 : len ≤ 1048576
  · have : b = true := by simpa [c1] using hb'.symm
    subst this
    clear hb'
    go_enter Try.func18, Try.ntmps18
    go_wp2
    go_ret
    exact ⟨rfl, rfl⟩
  · have : b = false := by simpa [c1] using hb'.symm
    subst this
    clear hb'
    go_enter Try.func18, Try.ntmps18
    go_wp2
    go_ret
    exact ⟨rfl, rfl⟩

/-- What is known of a slice of bytes that came in. -/
def SrcOk (w : World) (a : Option Addr) (len cap : Nat) (zs : List Int) : Prop :=
  (a = none ∧ len = 0 ∧ cap = 0 ∧ zs = []) ∨
  ∃ x, a = some x ∧ len ≤ zs.length ∧ ∀ i, i < zs.length → w.cell? (x.add i) = some (.int .u8 (zs.getD i 0))

theorem info5 : (Try.prog.info? 5).map (fun i => (i.zero, i.size, i.bytes)) = some (some (.int .u8 0), 1, 1) := by kernel_rfl
theorem size5 : (Try.prog.info? 5).map (·.size) = some 1 := by kernel_rfl
theorem make27 (n : Nat) (hn : n ≤ 1048576) (w : World) : (Instr.makeSlice 27 (.int .i64 n) (.int .i64 n)).run Try.prog w = .ok (.slice (some ⟨w.heap.size, 0, none⟩) n n) (w.alloc (.cells (madeCells #[.int .u8 0] n) 5)) := by
  obtain ⟨i, hi, h1, h2, h3⟩ := info_parts info5
  have := run_make (P := Try.prog) w 27 5 i (.int .u8 0) Try.underlying27 hi h1 .i64 .i64 n n (by omega) (by omega) (by rw [h3]; omega) (by omega)
  rw [this, h2]
  simp [Value.cells]

set_option maxRecDepth 100000 in
/-- The ways on which the law says true at once. -/
theorem lawsp_out (a : Option Addr) (len cap : Nat) (at_ : Int) (w : World) (h : len ≤ maxLen) (hat : -9223372036854775808 ≤ at_ ∧ at_ ≤ 9223372036854775807) (hout : 1048576 < len ∨ at_ < 0 ∨ 1048576 < at_) :
    Calls Try.prog 7 #[.slice a len cap, .int .i64 at_] w fun e w' => e = .returned (.bool true) ∧ w = w' := by
  by_cases c1 : len ≤ 1048576
  · have hb : Hid (decide (len ≤ 1048576) = true) := decide_eq_true c1
    by_cases c2 : at_ < 0
    · go_enter Try.func7, Try.ntmps7
      go_wp2_with (go_at_call 18; refine (bytes18 _ _ _ _ _ h true hb).mono ?_; rintro e w' ⟨rfl, rfl⟩)
      go_ret
      exact ⟨rfl, rfl⟩
    · have c3 : 1048576 < at_ := by omega
      clear hout
      go_enter Try.func7, Try.ntmps7
      go_wp2_with (go_at_call 18; refine (bytes18 _ _ _ _ _ h true hb).mono ?_; rintro e w' ⟨rfl, rfl⟩)
      go_ret
      exact ⟨rfl, rfl⟩
  · have hb : Hid (decide (len ≤ 1048576) = false) := decide_eq_false c1
    go_enter Try.func7, Try.ntmps7
    go_wp2_with (go_at_call 18; refine (bytes18 _ _ _ _ _ h false hb).mono ?_; rintro e w' ⟨rfl, rfl⟩)
    go_ret
    exact ⟨rfl, rfl⟩

set_option maxRecDepth 100000 in
set_option maxHeartbeats 1000000 in
theorem lawsp_main (a : Option Addr) (len cap at_ : Nat) (zs : List Int) (w : World) (h : len ≤ 1048576) (hat : at_ ≤ 1048576) (hs : SrcOk w a len cap zs) :
    Calls Try.prog 7 #[.slice a len cap, .int .i64 at_] w fun e w' => e = .returned (.bool true) ∧ Upto (fun k => w.heap.size ≤ k) w w' := by
  have hb : Hid (decide (len ≤ 1048576) = true) := decide_eq_true h
  have hm : len ≤ maxLen := by unfold maxLen; omega
  have HS : Hid (SrcOk w a len cap zs) := hs
  clear hs
  have hnil := fun (W : World) (a : Option Addr) (n c : Nat) => run_neq_slice_nil_any (P := Try.prog) W 27 5 a n c 0 0 Try.underlying27
  go_enter Try.func7, Try.ntmps7
  go_upto_if 22 with (first | (go_at_call 18; refine (bytes18 _ _ _ _ _ hm true hb).mono ?_; rintro e w' ⟨rfl, rfl⟩))
  go_cut [0] (fun v wc => ∃ ao : Option Addr, ∃ c : Nat, v = .slice ao len c ∧ Hid (Dat wc ao (zs.take len)) ∧ Hid ((zs.take len).length = len) ∧ Hid (Upto (fun k => w.heap.size ≤ k) w wc))
  case first =>
    rcases HS.out with ⟨rfl, rfl, rfl, rfl⟩ | ⟨x, rfl, hl, hc⟩
    · go_wp2
      go_meet
      case rel => exact ⟨none, 0, rfl, fun h0 => absurd h0 (by simp), rfl, Upto.refl _ _⟩
    · have hmk := make27 len h
      have HC : Hid (∀ i, i < zs.length → w.cell? (x.add i) = some (.int .u8 (zs.getD i 0))) := hc
      clear hc
      obtain ⟨cs, HCs⟩ : ∃ cs, Hid (cs = (zs.take len).map (Value.int .u8)) := ⟨_, rfl⟩
      have H1 : Hid (cs.length = len) := by show cs.length = len; rw [HCs.out]; simp; omega
      have H1' : Hid (cs.length = Nat.min len len) := by show cs.length = Nat.min len len; rw [H1.out]; exact (Nat.min_self len).symm
      have H2 : Hid (0 < cs.length → (some (⟨w.heap.size, 0, none⟩ : Addr)) = some ⟨w.heap.size, 0, none⟩ ∧ ∃ ad, some x = some ad ∧ ∀ j v, cs[j]? = some v → (w.alloc (.cells (madeCells #[.int .u8 0] len) 5)).cell? (ad.add j) = some v) := by
        intro _
        refine ⟨rfl, x, rfl, fun j v hj => ?_⟩
        have hjl : j < cs.length := (List.getElem?_eq_some_iff.1 hj).1
        rw [H1.out] at hjl
        have hjz : j < zs.length := by omega
        have c0 := HC.out j hjz
        have e : v = .int .u8 (zs.getD j 0) := by
          rw [HCs.out, List.getElem?_map, List.getElem?_take, if_pos hjl, List.getElem?_eq_getElem hjz] at hj
          rw [List.getD_eq_getElem?_getD, List.getElem?_eq_getElem hjz]
          simpa using hj.symm
        rw [e, ← c0]
        exact World.cell?_of_block (w := w) (Below.heap_alloc w _ _ (block_lt_of_cell c0))
      have H3 : Hid (0 + cs.length ≤ (madeCells #[.int .u8 0] len).toList.length) := by
        show 0 + cs.length ≤ (madeCells #[.int .u8 0] len).toList.length
        rw [H1.out, Array.length_toList, size_madeCells]; omega
      have H4 : Hid (∀ u ∈ cs, u.oneCell' = true) := by
        intro u hu
        rw [HCs.out] at hu
        exact ints_oneCell .u8 _ u hu
      go_wp2_with (first | (with_reducible (show wpList _ _ _ (Oper.mk (some 28) _ _ _ _ _ :: _) _ _); refine wpList_copy_splice rfl (.tmp 26) (.tmp 27) 27 27 rfl 5 Try.underlying27 size5 (some ⟨w.heap.size, 0, none⟩) (some x) len len len cap rfl rfl w.heap.size 0 (madeCells #[.int .u8 0] len).toList 5 (heap_alloc_new w _) cs H1'.out H2.out H3.out H4.out w.heap.size w ((Below.refl _ _).alloc (Nat.le_refl _) _) (Nat.le_refl _) ?_; intro w2 HG2 hB2))
      go_meet
      case rel =>
        have hrow : Ints w2 w.heap.size .u8 5 (zs.take len) := by
          have e : splice (madeCells #[.int .u8 0] len).toList 0 cs = cs := by
            unfold splice
            rw [H1.out, List.drop_of_length_le (by rw [Array.length_toList, size_madeCells]; omega)]
            simp
          have := HG2.out
          rw [e, HCs.out] at this
          exact this
        exact ⟨some ⟨w.heap.size, 0, none⟩, len, rfl, fun _ => ⟨_, rfl, hrow⟩, by show (zs.take len).length = len; simp; omega, Upto.ofBelow hB2⟩
  case rest =>
    obtain ⟨ao, c, rfl, HD, HL, HU⟩ := hcut
    generalize zs.take len = ys at HD HL
    go_wp2_with (fail)
    refine (zzspace_any len c at_ ao ys wc HL.out h hat HD.out).mono ?_
    rintro e w1 ⟨k, rfl, hst, hu⟩
    have HST : Hid (Stops ys at_ k) := hst
    have HU1 : Hid (Upto (fun k => w.heap.size ≤ k) w w1) := HU.out.trans (hu.mono (fun k _ h => absurd h (fun h => h)))
    have HD1 : Hid (Dat w1 ao ys) := by
      intro h0
      obtain ⟨g, e, hi⟩ := HD.out h0
      exact ⟨g, e, hu.ints hi (fun h => h)⟩
    clear hst hu HU HD
    have hkb : at_ ≤ k ∧ k ≤ 2097152 := by
      have h1 := HST.out.1
      refine ⟨h1, ?_⟩
      rcases Nat.lt_or_ge at_ k with h2 | h2
      · have := (HST.out.2.1 (k - 1) (by omega) (by omega)).1
        have := HL.out
        omega
      · omega
    obtain ⟨hk1, hk2⟩ := hkb
    by_cases hge : len ≤ at_
    · have hke : k = at_ := by
        rcases Nat.lt_or_ge at_ k with h2 | h2
        · have := (HST.out.2.1 at_ (Nat.le_refl _) h2).1
          have := HL.out
          omega
        · omega
      have hke' : ((k : Int) == (at_ : Int)) = true := by rw [hke]; exact beq_self_eq_true _
      clear hke
      go_wp2
      go_ret
      exact ⟨rfl, HU1.out⟩
    · have hkl : k ≤ len := by
        rcases Nat.lt_or_ge at_ k with h2 | h2
        · have := (HST.out.2.1 (k - 1) (by omega) (by omega)).1
          have := HL.out
          omega
        · omega
      obtain ⟨g, hg, hI⟩ := HD1.out (by rw [HL.out]; omega)
      have HI : Hid (Ints w1 g .u8 5 ys) := hI
      subst hg
      clear hI HD1
      have hd1 : decide ((k : Int) < (at_ : Int)) = false := decide_eq_false (by omega)
      have hd2 : decide ((len : Int) < (k : Int)) = false := decide_eq_false (by omega)
      have hd3 : decide (k < at_) = false := decide_eq_false (by omega)
      have hd4 : decide (len < k) = false := decide_eq_false (by omega)
      go_wp2
      go_loop [7] (fun v => ∃ j : Nat, at_ ≤ j ∧ j ≤ k ∧ v = .int .i64 j) (fun v => k - (intOf v).toNat)
      case atStart => exact ⟨at_, by omega, by omega, rfl⟩
      case round =>
        obtain ⟨j, hj1, hj2, rfl⟩ := hrel
        by_cases hlt : j < k
        · have cj := HI.out.cell (i := j) (by rw [HL.out]; omega)
          have HSp : Hid (sp (ys.getD j 0) = true) := (HST.out.2.1 j hj1 hlt).2
          generalize ys.getD j 0 = x at cj HSp
          go_wp2_with (go_at_call 20; refine (isSp_any x _ true HSp).mono ?_; rintro e w' ⟨rfl, rfl⟩)
          go_round
          case rel => exact ⟨j + 1, by omega, by omega, by go_num⟩
          case measure => simp [intOf]; omega
        · by_cases hke : k < len
          · have ck := HI.out.cell (i := k) (by rw [HL.out]; omega)
            have HSp : Hid (sp (ys.getD k 0) = false) := by
              rcases HST.out.2.2 with h1 | h1
              · have := HL.out; omega
              · exact h1
            generalize ys.getD k 0 = x at ck HSp
            go_wp2_with (go_at_call 20; refine (isSp_any x _ false HSp).mono ?_; rintro e w' ⟨rfl, rfl⟩)
            go_ret
            exact ⟨rfl, HU1.out⟩
          · go_wp2
            go_ret
            exact ⟨rfl, HU1.out⟩

theorem lawsp (a : Option Addr) (len cap : Nat) (at_ : Int) (zs : List Int) (w : World) (h : len ≤ maxLen) (hat : -9223372036854775808 ≤ at_ ∧ at_ ≤ 9223372036854775807) (hs : SrcOk w a len cap zs) :
    Calls Try.prog 7 #[.slice a len cap, .int .i64 at_] w fun e w' => e = .returned (.bool true) ∧ Upto (fun k => w.heap.size ≤ k) w w' := by
  by_cases hout : 1048576 < len ∨ at_ < 0 ∨ 1048576 < at_
  · refine (lawsp_out a len cap at_ w h hat hout).mono ?_
    rintro e w' ⟨rfl, rfl⟩
    exact ⟨rfl, Upto.refl _ _⟩
  · obtain ⟨n, rfl⟩ := Int.eq_ofNat_of_zero_le (a := at_) (by omega)
    exact lawsp_main a len cap n zs w (by omega) (by omega) hs
end Go.Proofs.Qxb6601053a
