/-
  FnCountOnceKeepsHalfFree: the walk of the law.
-/
import Derived.Test.Qxb6600921aScript
import Derived.Test.Qxb6600921aSrc
namespace Go.Proofs.Qxb6600921a
open Go.RowKit
set_option linter.unusedVariables false

theorem pow2_any (p m : Nat) (w : World) (hp : 2 ^ p = m) (hm : m ≤ 1048576) (h1 : 1 ≤ m) :
    Calls Try.prog 34 #[.int .i64 m] w fun e w' => e = .returned (.bool true) ∧ w = w' := by
  have hb : bits .and .i64 (m : Int) ((m : Int) - 1) = 0 := by
    have hp20 : p ≤ 20 := by
      rcases Nat.lt_or_ge 20 p with h | h
      · have : 2 ^ 21 ≤ 2 ^ p := Nat.pow_le_pow_right (by decide) h
        omega
      · exact h
    subst hp
    have := bits_mask .i64 62 (by decide) (fun n h h' => by rw [IntKind.wrap_i64]; omega) p (by omega) ((2 ^ p : Nat) : Int) (by omega) (by omega)
    rw [show ((2 ^ p : Nat) : Int) - 1 = (2 : Int) ^ p - 1 from by simp, this]
    simp
  clear hp
  go_enter Try.func34, Try.ntmps34
  go_wp2
  go_ret
  exact ⟨rfl, rfl⟩

/-- How many of the pairs seen are live. -/
def lvc (into : List Int) (ss : List (Int × Int)) : Nat := (ss.filter (fun q => liveB into (pk q.1 q.2))).length
theorem lvc_succ {into : List Int} {ss : List (Int × Int)} {i : Nat} (hi : i < ss.length) : lvc into (ss.take (i + 1)) = lvc into (ss.take i) + (if liveB into (pk ss[i].1 ss[i].2) then 1 else 0) := by
  unfold lvc
  rw [List.take_succ_eq_append_getElem hi, List.filter_append, List.length_append]
  congr 1
  simp only [List.filter_cons, List.filter_nil]
  split <;> rfl
theorem SI.live_le {T k : Nat} {into : List Int} {ss : List (Int × Int)} {sl : List Int} (h : SI T k into ss sl) (hT2 : T ≤ 65536) : lvc into ss ≤ (Tab.keys sl).length := by
  have hmap : ((ss.filter (fun q => liveB into (pk q.1 q.2))).map (fun q => pk q.1 q.2)).Nodup := by
    have hn : (ss.filter (fun q => liveB into (pk q.1 q.2))).Nodup := List.Sublist.nodup List.filter_sublist h.nd
    refine List.pairwise_map.2 (List.Pairwise.imp_of_mem ?_ hn)
    intro a b ha hb hne e
    have h1 := h.rng a (List.mem_filter.1 ha).1
    have h2 := h.rng b (List.mem_filter.1 hb).1
    have := pk_inj (by omega) (by omega) (by omega) (by omega) e
    exact hne (Prod.ext this.1 this.2)
  have := Tab.length_le_of_nodup _ (Tab.keys sl) hmap (fun x hx => by
    obtain ⟨q, hq, rfl⟩ := List.mem_map.1 hx
    have hq' := List.mem_filter.1 hq
    exact h.all q hq'.1 hq'.2)
  simpa [lvc] using this

theorem bytes31 (t : Int) (a1 : Option Addr) (len1 cap1 : Nat) (a2 : Option Addr) (len2 cap2 : Nat) (w : World) (h1 : len1 ≤ maxLen) (h2 : len2 ≤ maxLen) (b : Bool) (hb : Hid (decide (len1 + len2 ≤ 1048576) = b)) :
    Calls Try.prog 31 #[.int .i32 t, .slice a1 len1 cap1, .slice a2 len2 cap2] w fun e w' => e = .returned (.bool b) ∧ w = w' := by
  have hb' := hb.out
  clear hb
  unfold maxLen at h1 h2
  by_cases c1 : len1 + len2 ≤ 1048576
  · have : b = true := by simpa [c1] using hb'.symm
    subst this
    clear hb'
    go_enter Try.func31, Try.ntmps31
    go_wp2
    go_ret
    exact ⟨rfl, rfl⟩
  · have : b = false := by simpa [c1] using hb'.symm
    subst this
    clear hb'
    by_cases c2 : len1 ≤ 1048576
    · by_cases c3 : len2 ≤ 1048576
      all_goals
        go_enter Try.func31, Try.ntmps31
        go_wp2
        go_ret
        exact ⟨rfl, rfl⟩
    · go_enter Try.func31, Try.ntmps31
      go_wp2
      go_ret
      exact ⟨rfl, rfl⟩

set_option maxRecDepth 100000 in
/-- The ways on which the law says true at once. -/
theorem law8_out (t : Int) (a1 : Option Addr) (len1 cap1 : Nat) (a2 : Option Addr) (len2 cap2 : Nat) (w : World) (h1 : len1 ≤ maxLen) (h2 : len2 ≤ maxLen) (ht : -2147483648 ≤ t ∧ t ≤ 2147483647)
    (hout : 1048576 < len1 + len2 ∨ 1048576 < 4 * (len1 + len2) ∨ 4096 < len1 ∨ 4096 < len2 ∨ t < 2 ∨ 65536 < t) :
    Calls Try.prog 8 #[.int .i32 t, .slice a1 len1 cap1, .slice a2 len2 cap2] w fun e w' => e = .returned (.bool true) ∧ w = w' := by
  by_cases c1 : len1 + len2 ≤ 1048576
  · have hb : Hid (decide (len1 + len2 ≤ 1048576) = true) := decide_eq_true c1
    by_cases c2 : 1048576 < 4 * (len1 + len2)
    · go_enter Try.func8, Try.ntmps8
      go_wp2_with (go_at_call 31; refine (bytes31 _ _ _ _ _ _ _ _ h1 h2 true hb).mono ?_; rintro e w' ⟨rfl, rfl⟩)
      go_ret
      exact ⟨rfl, rfl⟩
    · by_cases c3 : 4096 < len1
      · go_enter Try.func8, Try.ntmps8
        go_wp2_with (go_at_call 31; refine (bytes31 _ _ _ _ _ _ _ _ h1 h2 true hb).mono ?_; rintro e w' ⟨rfl, rfl⟩)
        go_ret
        exact ⟨rfl, rfl⟩
      · by_cases c4 : 4096 < len2
        · go_enter Try.func8, Try.ntmps8
          go_wp2_with (go_at_call 31; refine (bytes31 _ _ _ _ _ _ _ _ h1 h2 true hb).mono ?_; rintro e w' ⟨rfl, rfl⟩)
          go_ret
          exact ⟨rfl, rfl⟩
        · by_cases c5 : t < 2
          · go_enter Try.func8, Try.ntmps8
            go_wp2_with (go_at_call 31; refine (bytes31 _ _ _ _ _ _ _ _ h1 h2 true hb).mono ?_; rintro e w' ⟨rfl, rfl⟩)
            go_ret
            exact ⟨rfl, rfl⟩
          · have c6 : 65536 < t := by omega
            clear hout
            go_enter Try.func8, Try.ntmps8
            go_wp2_with (go_at_call 31; refine (bytes31 _ _ _ _ _ _ _ _ h1 h2 true hb).mono ?_; rintro e w' ⟨rfl, rfl⟩)
            go_ret
            exact ⟨rfl, rfl⟩
  · have hb : Hid (decide (len1 + len2 ≤ 1048576) = false) := decide_eq_false c1
    go_enter Try.func8, Try.ntmps8
    go_wp2_with (go_at_call 31; refine (bytes31 _ _ _ _ _ _ _ _ h1 h2 false hb).mono ?_; rintro e w' ⟨rfl, rfl⟩)
    go_ret
    exact ⟨rfl, rfl⟩

set_option maxRecDepth 100000 in
set_option maxHeartbeats 1000000 in
theorem law8_main (T : Nat) (b1 o1 len1 cap1 : Nat) (z1 : List Int) (b2 o2 len2 cap2 : Nat) (z2 : List Int) (w : World) (hT : 2 ≤ T) (hT2 : T ≤ 65536) (h1 : len1 ≤ 4096) (h2 : len2 ≤ 4096)
    (hl1 : len1 ≤ z1.length) (hl2 : len2 ≤ z2.length)
    (c1 : ∀ i, i < z1.length → w.cell? ⟨b1, o1 + i, none⟩ = some (.int .i32 (z1.getD i 0)))
    (c2 : ∀ i, i < z2.length → w.cell? ⟨b2, o2 + i, none⟩ = some (.int .i32 (z2.getD i 0)))
    (r1 : ∀ x ∈ z1, -2147483648 ≤ x ∧ x ≤ 2147483647) (r2 : ∀ x ∈ z2, -2147483648 ≤ x ∧ x ≤ 2147483647) :
    Calls Try.prog 8 #[.int .i32 T, .slice (some ⟨b1, o1, none⟩) len1 cap1, .slice (some ⟨b2, o2, none⟩) len2 cap2] w fun e w' => e = .returned (.bool true) ∧ Upto (fun k => w.heap.size ≤ k) w w' := by
  have hb : Hid (decide (len1 + len2 ≤ 1048576) = true) := decide_eq_true (by omega)
  have hm1 : len1 ≤ maxLen := by unfold maxLen; omega
  have hm2 : len2 ≤ maxLen := by unfold maxLen; omega
  have C1 : Hid (∀ i, i < z1.length → w.cell? ⟨b1, o1 + i, none⟩ = some (.int .i32 (z1.getD i 0))) := c1
  have C2 : Hid (∀ i, i < z2.length → w.cell? ⟨b2, o2 + i, none⟩ = some (.int .i32 (z2.getD i 0))) := c2
  have R1 : Hid (∀ x ∈ z1, -2147483648 ≤ x ∧ x ≤ 2147483647) := r1
  have R2 : Hid (∀ x ∈ z2, -2147483648 ≤ x ∧ x ≤ 2147483647) := r2
  clear c1 c2 r1 r2
  go_enter Try.func8, Try.ntmps8
  go_wp2_with (first | (go_at_call 31; refine (bytes31 _ _ _ _ _ _ _ _ hm1 hm2 true hb).mono ?_; rintro e w' ⟨rfl, rfl⟩))
  refine (clone_some b1 o1 len1 cap1 z1 w hl1 (by omega) C1.out).mono ?_
  rintro e w1 ⟨rfl, u1, i1, s1⟩
  have C2' : Hid (∀ i, i < z2.length → w1.cell? ⟨b2, o2 + i, none⟩ = some (.int .i32 (z2.getD i 0))) := by
    intro i hi
    have c0 := C2.out i hi
    rw [← c0]
    exact World.cell?_of_block (w := w) (u1.block b2 (block_lt_of_cell c0) (fun h => h))
  go_wp2_with (fail)
  refine (clone_some b2 o2 len2 cap2 z2 w1 hl2 (by omega) C2'.out).mono ?_
  rintro e w2 ⟨rfl, u2, i2, s2⟩
  go_upto_if 56 with (fail)
  go_cut [7] (fun v wc => ∃ N : Nat, v = .int .i64 N ∧ N ≤ len1 ∧ N ≤ len2 ∧ w2 = wc)
  case first =>
    by_cases hlt : len2 < len1
    · go_wp2
      go_meet
      case rel => exact ⟨len2, rfl, by omega, by omega, rfl⟩
    · go_wp2
      go_meet
      case rel => exact ⟨len1, rfl, by omega, by omega, rfl⟩
  case rest =>
    obtain ⟨N, rfl, hN1, hN2, rfl⟩ := hcut
    have hmk := make22 .i32 T (by omega)
    go_wp2
    go_loopw [9] (fun i wr => ∃ k : Nat, k ≤ T ∧ i = .int .i64 k ∧ Hid (Upto (fun _ => False) w2 wr) ∧ Hid (Ints wr w2.heap.size .i32 21 (List.replicate k (-1) ++ List.replicate (T - k) 0)) ∧ w2.heap.size < wr.heap.size) (fun i _ => T - (intOf i).toNat)
    case atStart => exact ⟨0, Nat.zero_le _, rfl, (Upto.refl _ _).alloc _, by simpa [Hid] using Ints.made w2 .i32 21 T, by simp⟩
    case round =>
      obtain ⟨k, hk, rfl, HU, HI, hsz⟩ := hrel
      by_cases hlt : k < T
      · have ck := HI.out.cell (i := k) (by simp; omega)
        have fk := Blk.frozen HI.out k
        generalize (List.replicate k (-1) ++ List.replicate (T - k) 0).getD k 0 = v at ck
        go_wp2
        go_roundw
        case rel =>
          refine ⟨k + 1, by omega, by go_num, HU.out.setCell (p := ⟨w2.heap.size, k, none⟩) (fun h => absurd h (by simp)) _, ?_, by simpa using hsz⟩
          have := HI.out.set k (-1)
          rw [fill_step k T hlt] at this
          exact this
        case measure => simp [intOf]; omega
      · have hkT : k = T := by omega
        have HI2 : Hid (Ints wr w2.heap.size .i32 21 (List.replicate T (-1))) := by
          have := HI.out; rw [hkT] at this; simpa [Hid] using this
        clear HI hkT
        go_wp2_with (fail)
        refine (new_any _ _ _ _).mono ?_
        rintro e w4 ⟨rfl, u4, B4, s4⟩
        have hmk0 := make22_0 N (by omega)
        go_wp2_with (fail)
        obtain ⟨gl, Hgl⟩ : ∃ g, Hid (g = w.heap.size) := ⟨_, rfl⟩
        obtain ⟨gr, Hgr⟩ : ∃ g, Hid (g = w1.heap.size) := ⟨_, rfl⟩
        obtain ⟨I, HgI⟩ : ∃ g, Hid (g = w2.heap.size) := ⟨_, rfl⟩
        obtain ⟨B, HgB⟩ : ∃ g, Hid (g = wr.heap.size) := ⟨_, rfl⟩
        rw [← Hgl.out, ← Hgr.out, ← HgI.out, ← HgB.out]
        have ho : Ord w gl gr I B (B + 1) (B + 1 + 1) := by
          have e1 := Hgl.out; have e2 := Hgr.out; have e3 := HgI.out; have e4 := HgB.out
          exact ⟨by omega, by omega, by omega, by omega, by omega, by omega⟩
        have HL0 : Hid (LI w ((w4.alloc (Obj.cells (madeCells #[Value.int IntKind.i32 0] N) 21)).alloc (Obj.cells (madeCells #[Value.int IntKind.i32 0] N) 21)) gl gr I B (B + 1) (B + 1 + 1) T N (z1.take len1) (z2.take len2) (List.replicate T (-1)) [] none []) := by
          have e1 := Hgl.out; have e2 := Hgr.out; have e3 := HgI.out; have e4 := HgB.out
          have s5 : (w4.alloc (Obj.cells (madeCells #[Value.int IntKind.i32 0] N) 21)).heap.size = w4.heap.size + 1 := by simp
          have m0 : ∀ {a b : World}, Upto (fun _ => False) a b → Upto (fun k => w.heap.size ≤ k) a b := fun h => h.mono (fun k _ h => absurd h (fun h => h))
          have i1' := HU.out.ints (u2.ints i1 (fun h => h)) (fun h => h)
          have i2' := HU.out.ints i2 (fun h => h)
          rw [← e1] at i1'
          rw [← e2] at i2'
          have i3' := HI2.out
          rw [← e3] at i3'
          rw [← e4] at B4
          rw [← e3] at B4
          refine ⟨?_, Blk.alloc (Blk.alloc (u4.ints i1' (fun h => h)) _) _, Blk.alloc (Blk.alloc (u4.ints i2' (fun h => h)) _) _, Blk.alloc (Blk.alloc (u4.ints i3' (fun h => h)) _) _, Or.inl ⟨rfl, rfl, (B4.alloc _).alloc _⟩, ?_, ?_, (fun S hS => by cases hS), by simp; omega⟩
          · exact ((((m0 u1).trans (m0 u2)).trans (m0 HU.out)).trans (m0 u4)).trans (((Upto.refl _ _).alloc _).alloc _)
          · have := World.ownsRow_made (base := w.heap.size) (e := 21) (size := 1) w4 (madeCells #[Value.int IntKind.i32 0] N) N (by omega) (by unfold maxLen; omega) (by rw [size_madeCells]; omega)
            rw [s4, ← e4] at this
            exact this.alloc _
          · have := World.ownsRow_made (base := w.heap.size) (e := 21) (size := 1) (w4.alloc (Obj.cells (madeCells #[Value.int IntKind.i32 0] N) 21)) (madeCells #[Value.int IntKind.i32 0] N) N (by omega) (by unfold maxLen; omega) (by rw [size_madeCells]; omega)
            rw [s5, s4, ← e4] at this
            exact this
        have HS0 : Hid (SI T 0 (List.replicate T (-1)) [] []) :=
          ⟨by simp, by simp, by simp [Tab.keys], by simp [Tab.keys], by simp, by simp, by simp, by simp⟩
        clear u1 i1 s1 u2 i2 s2 HU HI2 hsz u4 B4 hmk hmk0 s4 Hgl Hgr HgI HgB C2'
        go_loopw [11, 12, 13] (fun vL vR i wr => ∃ k : Nat, ∃ ss : List (Int × Int), ∃ into sl : List Int, ∃ So : Option Nat, k ≤ N ∧ i = .int .i64 k ∧ vL = .slice (some ⟨B + 1, 0, none⟩) ss.length N ∧ vR = .slice (some ⟨B + 1 + 1, 0, none⟩) ss.length N ∧
          Hid (SI T k into ss sl) ∧ Hid (LI w wr gl gr I B (B + 1) (B + 1 + 1) T N (z1.take len1) (z2.take len2) into ss So sl)) (fun _ _ i _ => N - (intOf i).toNat)
        case atStart => exact ⟨0, [], _, [], none, Nat.zero_le _, rfl, rfl, rfl, HS0, HL0⟩
        case round =>
          clear HS0 HL0
          obtain ⟨k, ss, into, sl, So, hk, rfl, rfl, rfl, HS, HL⟩ := hrel
          by_cases hlt : k < N
          · have cl := HL.out.l.cell (i := k) (by simp; omega)
            have cr := HL.out.r.cell (i := k) (by simp; omega)
            have ha : (z1.take len1).getD k 0 ∈ z1 := List.mem_of_mem_take (Tab.mem_of_getD (by simp; omega))
            have hb' : (z2.take len2).getD k 0 ∈ z2 := List.mem_of_mem_take (Tab.mem_of_getD (by simp; omega))
            have ba := R1.out _ ha
            have bb := R2.out _ hb'
            generalize (z1.take len1).getD k 0 = a at cl ha ba
            generalize (z2.take len2).getD k 0 = b at cr hb' bb
            clear ha hb'
            obtain ⟨ba1, ba2⟩ := ba
            obtain ⟨bb1, bb2⟩ := bb
            have hTi := HS.out.hT
            have HTi : Hid (into.length = T) := hTi
            clear hTi
            have fI := Blk.frozen HL.out.i
            by_cases hneg : a < 0
            · obtain ⟨t, ht⟩ : ∃ t : Nat, (t : Int) = - a - 1 := ⟨(- a - 1).toNat, by omega⟩
              have hx : bits .xor .i32 (-1) a = (t : Int) := by rw [xor_neg a ba1 hneg]; exact ht.symm
              have hx' : bits .xor .i32 (if IntKind.i32.signed = true then -1 else IntKind.i32.max) a = (t : Int) := hx
              clear ht
              by_cases htT : t < T
              · have ct := HL.out.i.cell (i := t) (by rw [HTi.out]; exact htT)
                generalize into.getD t 0 = v at ct
                go_wp2
                go_roundw
                case rel => exact ⟨k + 1, ss, into.set t k, sl, So, by omega, by go_num, rfl, rfl, HS.out.join t k (by omega), HL.out.join ho t k⟩
                case measure => simp [intOf]; omega
              · go_wp2
                go_roundw
                case rel => exact ⟨k + 1, ss, into, sl, So, by omega, by go_num, rfl, rfl, HS.out.more, HL⟩
                case measure => simp [intOf]; omega
            · by_cases q1 : (T : Int) ≤ a
              · go_wp2
                go_roundw
                case rel => exact ⟨k + 1, ss, into, sl, So, by omega, by go_num, rfl, rfl, HS.out.more, HL⟩
                case measure => simp [intOf]; omega
              by_cases q2 : b < 0
              · go_wp2
                go_roundw
                case rel => exact ⟨k + 1, ss, into, sl, So, by omega, by go_num, rfl, rfl, HS.out.more, HL⟩
                case measure => simp [intOf]; omega
              by_cases q3 : (T : Int) ≤ b
              · go_wp2
                go_roundw
                case rel => exact ⟨k + 1, ss, into, sl, So, by omega, by go_num, rfl, rfl, HS.out.more, HL⟩
                case measure => simp [intOf]; omega
              obtain ⟨p, rfl⟩ := Int.eq_ofNat_of_zero_le (a := a) (by omega)
              obtain ⟨q, rfl⟩ := Int.eq_ofNat_of_zero_le (a := b) (by omega)
              have hpT : p < T := by omega
              have hqT : q < T := by omega
              by_cases q4 : p = q
              · have q4' : ((p : Int) == (q : Int)) = true := by rw [q4]; exact beq_self_eq_true _
                clear q4
                go_wp2
                go_roundw
                case rel => exact ⟨k + 1, ss, into, sl, So, by omega, by go_num, rfl, rfl, HS.out.more, HL⟩
                case measure => simp [intOf]; omega
              have q4' : ((p : Int) == (q : Int)) = false := by rw [beq_eq_false_iff_ne]; omega
              have cp := HL.out.i.cell (i := p) (by rw [HTi.out]; exact hpT)
              have cq := HL.out.i.cell (i := q) (by rw [HTi.out]; exact hqT)
              have HLV : Hid (liveB into (pk p q) = (decide (into.getD p 0 < 0) && decide (into.getD q 0 < 0))) := by
                have := live_pk (into := into) (l := p) (r := q) (by omega) (by omega) (by omega)
                simpa [Hid] using this
              generalize into.getD p 0 = vp at cp HLV
              generalize into.getD q 0 = vq at cq HLV
              by_cases q5 : 0 ≤ vp
              · go_wp2
                go_roundw
                case rel => exact ⟨k + 1, ss, into, sl, So, by omega, by go_num, rfl, rfl, HS.out.more, HL⟩
                case measure => simp [intOf]; omega
              by_cases q6 : 0 ≤ vq
              · go_wp2
                go_roundw
                case rel => exact ⟨k + 1, ss, into, sl, So, by omega, by go_num, rfl, rfl, HS.out.more, HL⟩
                case measure => simp [intOf]; omega
              have HLV2 : Hid (liveB into (pk p q) = true) := by
                show liveB into (pk p q) = true
                rw [HLV.out]; simp; omega
              clear HLV
              have hlen := HS.out.len
              have HIB : Hid (I ≠ B) := by have := ho.h4; exact Nat.ne_of_lt this
              have HIS : Hid (So ≠ some I) := fun e => by have := HL.out.so I e; have := ho.h4; omega
              clear fI
              go_upto_if 137 with (first | (go_at_call 22; refine (findPair_as (B + 1) (B + 1 + 1) N N ss p q (fp ss ((p : Int), (q : Int))) _ rfl (by omega) ⟨_, HL.out.oL⟩ ⟨_, HL.out.oR⟩).mono ?_; rintro e w' ⟨rfl, rfl⟩))
              go_cut [11, 12] (fun vL vR wc => ∃ ss' : List (Int × Int), vL = .slice (some ⟨B + 1, 0, none⟩) ss'.length N ∧ vR = .slice (some ⟨B + 1 + 1, 0, none⟩) ss'.length N ∧ ss'.length ≤ k + 1 ∧ Hid (Upto (fun k => k = B + 1 ∨ k = B + 1 + 1) wr wc) ∧
                Hid (wc.ownsRow w.heap.size 21 1 (.slice (some ⟨B + 1, 0, none⟩) ss'.length N) ss'.length ((ss'.map Prod.fst).map (Value.int .i32))) ∧ Hid (wc.ownsRow w.heap.size 21 1 (.slice (some ⟨B + 1 + 1, 0, none⟩) ss'.length N) ss'.length ((ss'.map Prod.snd).map (Value.int .i32))) ∧
                Hid (((p : Int), (q : Int)) ∈ ss' ∧ (∀ x, x ∈ ss' ↔ x ∈ ss ∨ x = ((p : Int), (q : Int))) ∧ ss'.Nodup))
              case first =>
                by_cases hin : ((p : Int), (q : Int)) ∈ ss
                · have HF : fp ss ((p : Int), (q : Int)) = (ss.idxOf ((p : Int), (q : Int)) : Int) := fp_pos hin
                  have Hin : Hid (((p : Int), (q : Int)) ∈ ss) := hin
                  clear hin
                  rw [HF]
                  generalize ss.idxOf ((p : Int), (q : Int)) = f at HF
                  clear HF
                  go_wp2
                  go_meet
                  case rel => exact ⟨ss, rfl, rfl, by omega, Upto.refl _ _, HL.out.oL, HL.out.oR, Hin.out, seen_mem Hin.out, HS.out.nd⟩
                · have HF : fp ss ((p : Int), (q : Int)) = -1 := fp_neg hin
                  have Hin : Hid (((p : Int), (q : Int)) ∉ ss) := hin
                  clear hin
                  rw [HF]
                  clear HF
                  obtain ⟨i21, hi21, hz0, hz1, hz2⟩ := info_parts info21
                  go_wp2_with (first | (at_builtin; refine wpList_append_fits _ rfl (.tmp 138) (.tmp 140) 22 rfl w.heap.size 21 i21 1 Try.underlying22 hi21 hz1 (B + 1) ss.length N ((ss.map Prod.fst).map (Value.int .i32)) rfl (HL.out.oL.alloc _) ⟨wr.heap.size, 0, none⟩ 1 1 [.int .i32 p] rfl rfl (cell_one_new _ _ _) (ints_oneCell .i32 [(p : Int)]) (by omega) ?_; intro w5 ho5 hg5) | (at_builtin; refine wpList_append_fits _ rfl (.tmp 142) (.tmp 144) 22 rfl w.heap.size 21 i21 1 Try.underlying22 hi21 hz1 (B + 1 + 1) ss.length N ((ss.map Prod.snd).map (Value.int .i32)) rfl (((Upto.ofGrown hg5).owns (HL.out.oR.alloc _) (by simp)).alloc _) ⟨w5.heap.size, 0, none⟩ 1 1 [.int .i32 q] rfl rfl (cell_one_new _ _ _) (ints_oneCell .i32 [(q : Int)]) (by omega) ?_; intro w6 ho6 hg6))
                  go_meet
                  case rel =>
                    refine ⟨ss ++ [((p : Int), (q : Int))], by simp, by simp, by simp; omega, ?_, ?_, ?_, by simp, snoc_mem ss _, snoc_nodup HS.out.nd Hin.out⟩
                    · refine (((Upto.refl _ wr).alloc _).trans ((Upto.ofGrown hg5).mono (fun k _ e => ?_))).trans (((Upto.refl _ w5).alloc _).trans ((Upto.ofGrown hg6).mono (fun k _ e => ?_)))
                      · cases e; exact Or.inl rfl
                      · cases e; exact Or.inr rfl
                    · show World.ownsRow _ _ _ _ _ _ _
                      rw [fst_snoc, List.length_append]
                      exact (Upto.ofGrown hg6).owns (ho5.alloc _) (by simp)
                    · show World.ownsRow _ _ _ _ _ _ _
                      rw [snd_snoc, List.length_append]
                      exact ho6
              case rest =>
                obtain ⟨ss', rfl, rfl, hlen', HU6, HOL, HOR, HM⟩ := hcut
                have o4 := ho.h4
                go_wp2_with (fail)
                refine (once_as B I T into p q So sl wc _ rfl (HL.out.c.upto HU6.out (by omega) (fun S e => by have := HL.out.so S e; omega)) (HU6.out.ints HL.out.i (by omega)) HTi.out hT2 HIB.out HIS.out (by omega) (by omega) (by omega) HLV2.out (HS.out.bd hT2) HS.out.hsl).mono ?_
                rintro e w3 ⟨rfl, hc⟩
                obtain ⟨So', sl', e1, e2, hSo⟩ := count_step HS.out HL.out ho (by omega) (by omega) (by omega) (by omega) HM.out.1 HM.out.2.1 HM.out.2.2 hlen' HU6.out HOL.out HOR.out hc
                have HS' : Hid (SI T (k + 1) into ss' sl') := e1
                have HL' : Hid (LI w w3 gl gr I B (B + 1) (B + 1 + 1) T N (z1.take len1) (z2.take len2) into ss' So' sl') := e2
                clear e1 e2 hc
                generalize decide (pk p q ∉ Tab.keys sl) = bv
                obtain ⟨S', p', hS', hp', h64', hhalf', HBk⟩ : ∃ S' p' : Nat, So' = some S' ∧ 2 ^ p' = sl'.length ∧ 64 ≤ sl'.length ∧ 2 * (Tab.keys sl').length ≤ sl'.length ∧ Hid (Blk w3 B (bl (.slice (some ⟨I, 0, none⟩) T T) (.slice (some ⟨S', 0, none⟩) sl'.length sl'.length) (Tab.keys sl').length (.slice none 0 0) 0 (.slice none 0 0)) 72) := by
                  rcases HL'.out.c with ⟨h, _⟩ | ⟨S, p, h1, _, h2, h3, _, h4, h5, _⟩
                  · exact absurd h hSo
                  · exact ⟨S, p, h1, h2, h3, h4, h5⟩
                have hkl := HS'.out.keys_le
                have hlv := HS'.out.live_le hT2
                have hs16 := HS'.out.hsl
                have HP' : Hid (2 ^ p' = sl'.length) := hp'
                clear hp' hS' hSo
                generalize sl'.length = m at h64' hhalf' HBk hs16 HP'
                generalize (Tab.keys sl').length = cn at hhalf' HBk hkl hlv
                go_wp2_with (first | (go_at_call 32; refine (slots_any B S' m _ _ _ _ _ _ HBk.out).mono ?_; rintro e w' ⟨rfl, rfl⟩) | (go_at_call 33; refine (count_any B _ _ _ _ _ _ _ HBk.out).mono ?_; rintro e w' ⟨rfl, rfl⟩) | (go_at_call 34; refine (pow2_any p' m _ HP'.out (by omega) (by omega)).mono ?_; rintro e w' ⟨rfl, rfl⟩))
                go_loop [19, 20] (fun c j => ∃ i x : Nat, i ≤ ss'.length ∧ j = .int .i64 i ∧ Hid (x = lvc into (ss'.take i)) ∧ x ≤ i ∧ c = .int .i64 x) (fun _ j => ss'.length - (intOf j).toNat)
                case atStart => exact ⟨0, 0, Nat.zero_le _, rfl, rfl, Nat.le_refl _, rfl⟩
                case round =>
                  obtain ⟨i, x, hi, rfl, HX, hxi, rfl⟩ := hrel
                  by_cases hlt2 : i < ss'.length
                  · have hrg := HS'.out.rng _ (List.getElem_mem hlt2)
                    have HSu : Hid (lvc into (ss'.take (i + 1)) = lvc into (ss'.take i) + (if liveB into (pk ss'[i].1 ss'[i].2) then 1 else 0)) := lvc_succ hlt2
                    have sL : w3.cell? ⟨B + 1, i, none⟩ = some (.int .i32 ss'[i].1) := by
                      rw [HL'.out.oL.cellAt i (by omega), List.getElem?_map, List.getElem?_map, List.getElem?_eq_getElem hlt2]; rfl
                    have sR : w3.cell? ⟨B + 1 + 1, i, none⟩ = some (.int .i32 ss'[i].2) := by
                      rw [HL'.out.oR.cellAt i (by omega), List.getElem?_map, List.getElem?_map, List.getElem?_eq_getElem hlt2]; rfl
                    generalize ss'[i] = y at hrg HSu sL sR
                    obtain ⟨y1, y2⟩ := y
                    dsimp only at hrg HSu sL sR
                    obtain ⟨a1, rfl⟩ := Int.eq_ofNat_of_zero_le hrg.1
                    obtain ⟨a2, rfl⟩ := Int.eq_ofNat_of_zero_le hrg.2.2.1
                    have ha1 : a1 < T := by omega
                    have ha2 : a2 < T := by omega
                    have cA := HL'.out.i.cell (i := a1) (by rw [HTi.out]; exact ha1)
                    have cB := HL'.out.i.cell (i := a2) (by rw [HTi.out]; exact ha2)
                    have hlp : liveB into (pk a1 a2) = (decide (into.getD a1 0 < 0) && decide (into.getD a2 0 < 0)) := by
                      have := live_pk (into := into) (l := a1) (r := a2) (by omega) (by omega) (by omega)
                      simpa using this
                    have HSu2 : Hid (lvc into (ss'.take (i + 1)) = lvc into (ss'.take i) + (if (decide (into.getD a1 0 < 0) && decide (into.getD a2 0 < 0)) = true then 1 else 0)) := by
                      have := HSu.out; rw [hlp] at this; exact this
                    clear HSu hlp hrg
                    generalize into.getD a1 0 = va at cA HSu2
                    generalize into.getD a2 0 = vb at cB HSu2
                    by_cases g1 : va < 0
                    · by_cases g2 : vb < 0
                      · have HX' : Hid (x + 1 = lvc into (ss'.take (i + 1))) := by
                          show x + 1 = _
                          rw [HSu2.out, ← HX.out]; simp [g1, g2]
                        go_wp2
                        go_round
                        case rel => exact ⟨i + 1, x + 1, by omega, by go_num, HX', by omega, by go_num⟩
                        case measure => simp [intOf]; omega
                      · have HX' : Hid (x = lvc into (ss'.take (i + 1))) := by
                          show x = _
                          rw [HSu2.out, ← HX.out]; simp [g2]
                        go_wp2
                        go_round
                        case rel => exact ⟨i + 1, x, by omega, by go_num, HX', by omega, rfl⟩
                        case measure => simp [intOf]; omega
                    · have HX' : Hid (x = lvc into (ss'.take (i + 1))) := by
                        show x = _
                        rw [HSu2.out, ← HX.out]; simp [g1]
                      go_wp2
                      go_round
                      case rel => exact ⟨i + 1, x, by omega, by go_num, HX', by omega, rfl⟩
                      case measure => simp [intOf]; omega
                  · have hxc : x ≤ cn := by
                      have := HX.out
                      rw [List.take_of_length_le (by omega)] at this
                      omega
                    clear hlv HX
                    go_wp2
                    go_roundw
                    case rel => exact ⟨k + 1, ss', into, sl', So', by omega, by go_num, rfl, rfl, HS', HL'⟩
                    case measure => simp [intOf]; omega
          · go_wp2
            go_ret
            exact ⟨rfl, HL.out.up⟩

set_option maxRecDepth 100000 in
set_option maxHeartbeats 1000000 in
/-- A script without a step. -/
theorem law8_none (T : Nat) (a1 : Option Addr) (len1 cap1 : Nat) (z1 : List Int) (a2 : Option Addr) (len2 cap2 : Nat) (z2 : List Int) (w : World) (hT : 2 ≤ T) (hT2 : T ≤ 65536) (h1 : len1 ≤ 4096) (h2 : len2 ≤ 4096)
    (s1 : SrcOk w a1 len1 cap1 z1) (s2 : SrcOk w a2 len2 cap2 z2) (h0 : len1 = 0 ∨ len2 = 0) :
    Calls Try.prog 8 #[.int .i32 T, .slice a1 len1 cap1, .slice a2 len2 cap2] w fun e w' => e = .returned (.bool true) ∧ Upto (fun k => w.heap.size ≤ k) w w' := by
  have hb : Hid (decide (len1 + len2 ≤ 1048576) = true) := decide_eq_true (by omega)
  have hm1 : len1 ≤ maxLen := by unfold maxLen; omega
  have hm2 : len2 ≤ maxLen := by unfold maxLen; omega
  have H0 : Hid (len1 = 0 ∨ len2 = 0) := h0
  clear h0
  go_enter Try.func8, Try.ntmps8
  go_wp2_with (first | (go_at_call 31; refine (bytes31 _ _ _ _ _ _ _ _ hm1 hm2 true hb).mono ?_; rintro e w' ⟨rfl, rfl⟩))
  refine (clone_any a1 len1 cap1 z1 w (by omega) s1).mono ?_
  rintro e w1 ⟨c1, rfl, u1⟩
  go_wp2_with (fail)
  refine (clone_any a2 len2 cap2 z2 w1 (by omega) (s2.upto u1)).mono ?_
  rintro e w2 ⟨c2, rfl, u2⟩
  go_upto_if 56 with (fail)
  go_cut [7] (fun v wc => v = .int .i64 0 ∧ w2 = wc)
  case first =>
    by_cases hlt : len2 < len1
    · go_wp2
      go_meet
      case rel => have := H0.out; exact ⟨by go_num, rfl⟩
    · go_wp2
      go_meet
      case rel => have := H0.out; exact ⟨by go_num, rfl⟩
  case rest =>
    obtain ⟨rfl, rfl⟩ := hcut
    have hmk := make22 .i32 T (by omega)
    go_wp2
    go_loopw [9] (fun i wr => ∃ k : Nat, k ≤ T ∧ i = .int .i64 k ∧ Hid (Upto (fun _ => False) w2 wr) ∧ Hid (Ints wr w2.heap.size .i32 21 (List.replicate k (-1) ++ List.replicate (T - k) 0)) ∧ w2.heap.size < wr.heap.size) (fun i _ => T - (intOf i).toNat)
    case atStart => exact ⟨0, Nat.zero_le _, rfl, (Upto.refl _ _).alloc _, by simpa [Hid] using Ints.made w2 .i32 21 T, by simp⟩
    case round =>
      obtain ⟨k, hk, rfl, HU, HI, hsz⟩ := hrel
      by_cases hlt : k < T
      · have ck := HI.out.cell (i := k) (by simp; omega)
        have fk := Blk.frozen HI.out k
        generalize (List.replicate k (-1) ++ List.replicate (T - k) 0).getD k 0 = v at ck
        go_wp2
        go_roundw
        case rel =>
          refine ⟨k + 1, by omega, by go_num, HU.out.setCell (p := ⟨w2.heap.size, k, none⟩) (fun h => absurd h (by simp)) _, ?_, by simpa using hsz⟩
          have := HI.out.set k (-1)
          rw [fill_step k T hlt] at this
          exact this
        case measure => simp [intOf]; omega
      · clear HI
        go_wp2_with (fail)
        refine (new_any _ _ _ _).mono ?_
        rintro e w4 ⟨rfl, u4, B4, s4⟩
        have hmk0 := make22_00
        have HU4 : Hid (Upto (fun k => w.heap.size ≤ k) w ((w4.alloc (Obj.cells (madeCells #[Value.int IntKind.i32 0] 0) 21)).alloc (Obj.cells (madeCells #[Value.int IntKind.i32 0] 0) 21))) := by
          have m0 : ∀ {a b : World}, Upto (fun _ => False) a b → Upto (fun k => w.heap.size ≤ k) a b := fun h => h.mono (fun k _ h => absurd h (fun h => h))
          exact ((((m0 u1).trans (m0 u2)).trans (m0 HU.out)).trans (m0 u4)).trans (((Upto.refl _ _).alloc _).alloc _)
        clear B4 s4
        go_wp2_with (fail)
        go_loopw [13] (fun i wr => i = .int .i64 0 ∧ Hid (Upto (fun k => w.heap.size ≤ k) w wr)) (fun _ _ => 0)
        case atStart => exact ⟨rfl, HU4⟩
        case round =>
          obtain ⟨rfl, HX⟩ := hrel
          go_wp2
          go_ret
          exact ⟨rfl, HX.out⟩

theorem law8 (t : Int) (a1 : Option Addr) (len1 cap1 : Nat) (z1 : List Int) (a2 : Option Addr) (len2 cap2 : Nat) (z2 : List Int) (w : World) (ht : -2147483648 ≤ t ∧ t ≤ 2147483647)
    (h1 : len1 ≤ maxLen) (h2 : len2 ≤ maxLen) (s1 : SrcOk w a1 len1 cap1 z1) (s2 : SrcOk w a2 len2 cap2 z2)
    (r1 : ∀ x ∈ z1, -2147483648 ≤ x ∧ x ≤ 2147483647) (r2 : ∀ x ∈ z2, -2147483648 ≤ x ∧ x ≤ 2147483647) :
    Calls Try.prog 8 #[.int .i32 t, .slice a1 len1 cap1, .slice a2 len2 cap2] w fun e w' => e = .returned (.bool true) ∧ Upto (fun k => w.heap.size ≤ k) w w' := by
  by_cases hout : 1048576 < len1 + len2 ∨ 1048576 < 4 * (len1 + len2) ∨ 4096 < len1 ∨ 4096 < len2 ∨ t < 2 ∨ 65536 < t
  · refine (law8_out t a1 len1 cap1 a2 len2 cap2 w h1 h2 ht hout).mono ?_
    rintro e w' ⟨rfl, rfl⟩
    exact ⟨rfl, Upto.refl _ _⟩
  · obtain ⟨T, rfl⟩ := Int.eq_ofNat_of_zero_le (a := t) (by omega)
    by_cases h0 : len1 = 0 ∨ len2 = 0
    · exact law8_none T a1 len1 cap1 z1 a2 len2 cap2 z2 w (by omega) (by omega) (by omega) (by omega) s1 s2 h0
    · obtain ⟨b1, o1, rfl, hl1, c1⟩ := s1.some (by omega)
      obtain ⟨b2, o2, rfl, hl2, c2⟩ := s2.some (by omega)
      exact law8_main T b1 o1 len1 cap1 z1 b2 o2 len2 cap2 z2 w (by omega) (by omega) (by omega) (by omega) hl1 hl2 c1 c2 r1 r2
end Go.Proofs.Qxb6600921a
