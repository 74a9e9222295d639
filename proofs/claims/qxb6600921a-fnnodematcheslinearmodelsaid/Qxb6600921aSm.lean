/-
  binaryDiagram's law: the small functions on its road.
-/
import Derived.Test.Qxb6600921aNd
import Derived.Test.Qxb6600921aSrc
import Derived.Laws.ResultCell
namespace Go.Proofs.Qxb6600921a
open Go.RowKit
set_option linter.unusedVariables false

theorem min3_any (a b c : Nat) (w : World) (ha : a ≤ 4096) (hb : b ≤ 4096) (hc : c ≤ 4096) :
    Calls Try.prog 11 #[.int .i64 a, .int .i64 b, .int .i64 c] w fun e w' => (∃ m : Nat, e = .returned (.int .i64 m) ∧ m ≤ a ∧ m ≤ b ∧ m ≤ c ∧ (m = a ∨ m = b ∨ m = c)) ∧ w = w' := by
  by_cases h1 : b < a
  · by_cases h2 : c < b
    · go_enter Try.func11, Try.ntmps11
      go_wp2
      go_ret
      exact ⟨⟨c, rfl, by omega, by omega, by omega, by omega⟩, rfl⟩
    · go_enter Try.func11, Try.ntmps11
      go_wp2
      go_ret
      exact ⟨⟨b, rfl, by omega, by omega, by omega, by omega⟩, rfl⟩
  · by_cases h2 : c < a
    · go_enter Try.func11, Try.ntmps11
      go_wp2
      go_ret
      exact ⟨⟨c, rfl, by omega, by omega, by omega, by omega⟩, rfl⟩
    · go_enter Try.func11, Try.ntmps11
      go_wp2
      go_ret
      exact ⟨⟨a, rfl, by omega, by omega, by omega, by omega⟩, rfl⟩

theorem bytes9 (a1 : Option Addr) (len1 cap1 : Nat) (a2 : Option Addr) (len2 cap2 : Nat) (a3 : Option Addr) (len3 cap3 : Nat) (w : World) (h1 : len1 ≤ maxLen) (h2 : len2 ≤ maxLen) (h3 : len3 ≤ maxLen) (b : Bool) (hb : Hid (decide (len1 + len2 + len3 ≤ 1048576) = b)) :
    Calls Try.prog 9 #[.slice a1 len1 cap1, .slice a2 len2 cap2, .slice a3 len3 cap3] w fun e w' => e = .returned (.bool b) ∧ w = w' := by
  have hb' := hb.out
  clear hb
  unfold maxLen at h1 h2 h3
  by_cases c1 : len1 + len2 + len3 ≤ 1048576
  · have : b = true := by simpa [c1] using hb'.symm
    subst this
    clear hb'
    go_enter Try.func9, Try.ntmps9
    go_wp2
    go_ret
    exact ⟨rfl, rfl⟩
  · have : b = false := by simpa [c1] using hb'.symm
    subst this
    clear hb'
    by_cases c2 : len1 ≤ 1048576
    · by_cases c3 : len2 ≤ 1048576
      · by_cases c4 : len1 + len2 ≤ 1048576
        · by_cases c5 : len3 ≤ 1048576
          all_goals
            go_enter Try.func9, Try.ntmps9
            go_wp2
            go_ret
            exact ⟨rfl, rfl⟩
        · go_enter Try.func9, Try.ntmps9
          go_wp2
          go_ret
          exact ⟨rfl, rfl⟩
      · go_enter Try.func9, Try.ntmps9
        go_wp2
        go_ret
        exact ⟨rfl, rfl⟩
    · go_enter Try.func9, Try.ntmps9
      go_wp2
      go_ret
      exact ⟨rfl, rfl⟩

theorem pick_any (x n : Int) (w : World) (hx : -2147483648 ≤ x ∧ x ≤ 2147483647) (hn : 2 ≤ n ∧ n ≤ 5000) :
    Calls Try.prog 13 #[.int .i32 x, .int .i32 n] w fun e w' => (∃ y : Nat, (y : Int) < n ∧ e = .returned (.int .i32 y)) ∧ w = w' := by
  obtain ⟨hn1, hn2⟩ := hn
  have h1 : 0 ≤ x % 4294967296 % n := Int.emod_nonneg _ (by omega)
  have h2 : x % 4294967296 % n < n := Int.emod_lt_of_pos _ (by omega)
  have HE : Hid (∃ y : Nat, (y : Int) < n ∧ x % 4294967296 % n = (y : Int)) := ⟨(x % 4294967296 % n).toNat, by omega, by omega⟩
  go_enter Try.func13, Try.ntmps13
  go_wp2
  go_ret
  obtain ⟨y, hy, e⟩ := HE.out
  exact ⟨⟨y, hy, ret_int e⟩, rfl⟩

theorem ne_a {a b c x y z : Int} (h : ¬ x = a) : (x, y, z) ≠ (a, b, c) := fun e => h (by injection e)
theorem ne_b {a b c x y z : Int} (h : ¬ y = b) : (x, y, z) ≠ (a, b, c) := fun e => h (by injection e with _ e; injection e)
theorem ne_c {a b c x y z : Int} (h : ¬ z = c) : (x, y, z) ≠ (a, b, c) := fun e => h (by injection e with _ e; injection e)
theorem bef3 {ns : List Tab.K3} {x : Tab.K3} {k : Nat} (hb : ∀ j, 2 ≤ j → j < k → Tab.nat3 ns j ≠ x) (hk : Tab.nat3 ns k ≠ x) : ∀ j, 2 ≤ j → j < k + 1 → Tab.nat3 ns j ≠ x := by
  intro j h2 hj
  by_cases e : j = k
  · rw [e]; exact hk
  · exact hb j h2 (by omega)

set_option maxRecDepth 100000 in
set_option maxHeartbeats 1000000 in
/-- zzFindKey: the first place from 2 on at which the key stands, or -1. -/
theorem find3_any (base g c n : Nat) (ns : List Tab.K3) (a b d : Int) (w : World) (hn : ns.length = n) (hlen : n ≤ 10000) (h2 : 2 ≤ n)
    (ho : w.ownsRow base 31 3 (.slice (some ⟨g, 0, none⟩) n c) n (Tab.tcells ns)) :
    Calls Try.prog 14 #[.slice (some ⟨g, 0, none⟩) n c, .int .i32 a, .int .i32 b, .int .i32 d] w fun e w' =>
      ((∃ k : Nat, 2 ≤ k ∧ k < n ∧ Tab.nat3 ns k = (a, b, d) ∧ e = .returned (.int .i32 k)) ∨ (e = .returned (.int .i32 (-1)) ∧ ∀ j, 2 ≤ j → j < n → Tab.nat3 ns j ≠ (a, b, d))) ∧ w = w' := by
  have HN : Hid (ns.length = n) := hn
  have HO : Hid (w.ownsRow base 31 3 (.slice (some ⟨g, 0, none⟩) n c) n (Tab.tcells ns)) := ho
  clear hn ho
  go_enter Try.func14, Try.ntmps14
  go_wp2
  go_loop [9] (fun i => ∃ k : Nat, 2 ≤ k ∧ k ≤ n ∧ i = .int .i64 k ∧ Hid (∀ j, 2 ≤ j → j < k → Tab.nat3 ns j ≠ (a, b, d))) (fun i => n - (intOf i).toNat)
  case atStart => exact ⟨2, by omega, h2, rfl, fun j hj hj2 => absurd hj (by omega)⟩
  case round =>
    obtain ⟨k, hk2, hk, rfl, hb⟩ := hrel
    by_cases hlt : k < n
    · have c3 : w.cell? ⟨g, k * 3, none⟩ = some (.int .i32 (Tab.nat3 ns k).1) ∧ w.cell? ⟨g, k * 3 + 1, none⟩ = some (.int .i32 (Tab.nat3 ns k).2.1) ∧ w.cell? ⟨g, k * 3 + 2, none⟩ = some (.int .i32 (Tab.nat3 ns k).2.2) := by
        refine ⟨?_, ?_, ?_⟩
        · rw [HO.out.cellAt _ (by omega), Tab.tcells_at0 ns k (by rw [HN.out]; exact hlt)]
        · rw [HO.out.cellAt _ (by omega), Tab.tcells_at1 ns k (by rw [HN.out]; exact hlt)]
        · rw [HO.out.cellAt _ (by omega), Tab.tcells_at2 ns k (by rw [HN.out]; exact hlt)]
      generalize hy : Tab.nat3 ns k = y at c3
      have HY : Hid (Tab.nat3 ns k = y) := hy
      clear hy
      obtain ⟨y0, y1, y2⟩ := y
      dsimp only at c3
      obtain ⟨c30, c31, c32⟩ := c3
      by_cases e0 : y0 = a
      · have e0' : (y0 == a) = true := by simpa using e0
        by_cases e1 : y1 = b
        · have e1' : (y1 == b) = true := by simpa using e1
          by_cases e2 : y2 = d
          · have e2' : (y2 == d) = true := by simpa using e2
            have HR : Hid (Tab.nat3 ns k = (a, b, d)) := by show Tab.nat3 ns k = _; rw [HY.out, e0, e1, e2]
            clear e0 e1 e2
            go_wp2
            go_ret
            exact ⟨Or.inl ⟨k, hk2, hlt, HR.out, rfl⟩, rfl⟩
          · have e2' : (y2 == d) = false := by simpa using e2
            have HS : Hid (∀ j, 2 ≤ j → j < k + 1 → Tab.nat3 ns j ≠ (a, b, d)) := bef3 hb.out (by rw [HY.out]; exact ne_c e2)
            clear e0 e1 e2
            go_wp2
            go_round
            case rel => exact ⟨k + 1, by omega, by omega, by go_num, HS⟩
            case measure => simp [intOf]; omega
        · have e1' : (y1 == b) = false := by simpa using e1
          have HS : Hid (∀ j, 2 ≤ j → j < k + 1 → Tab.nat3 ns j ≠ (a, b, d)) := bef3 hb.out (by rw [HY.out]; exact ne_b e1)
          clear e0 e1
          go_wp2
          go_round
          case rel => exact ⟨k + 1, by omega, by omega, by go_num, HS⟩
          case measure => simp [intOf]; omega
      · have e0' : (y0 == a) = false := by simpa using e0
        have HS : Hid (∀ j, 2 ≤ j → j < k + 1 → Tab.nat3 ns j ≠ (a, b, d)) := bef3 hb.out (by rw [HY.out]; exact ne_a e0)
        clear e0
        go_wp2
        go_round
        case rel => exact ⟨k + 1, by omega, by omega, by go_num, HS⟩
        case measure => simp [intOf]; omega
    · have ek : k = n := by omega
      have HS : Hid (∀ j, 2 ≤ j → j < n → Tab.nat3 ns j ≠ (a, b, d)) := by rw [← ek]; exact hb
      clear ek
      go_wp2
      go_ret
      exact ⟨Or.inr ⟨rfl, HS.out⟩, rfl⟩

theorem size_any (D g n c : Nat) (vu vd : Value) (w : World) (hD : Blk w D [.slice (some ⟨g, 0, none⟩) n c, vu, vd] 52) (hn : n ≤ 10000) :
    Calls Try.prog 16 #[.pointer (some ⟨D, 0, none⟩)] w fun e w' => e = .returned (.int .i64 n) ∧ w = w' := by
  have d0 : w.cell? ⟨D, 0, none⟩ = some (.slice (some ⟨g, 0, none⟩) n c) := hD.cell rfl
  have hDl := hD.lt
  go_enter Try.func16, Try.ntmps16
  go_wp2
  go_ret
  exact ⟨rfl, rfl⟩

theorem zzNode_any {R : Int → World → Prop} (a : Addr) (v l r : Int) (w : World) (h : Calls Try.prog 35 #[.pointer (some a), .int .i32 v, .int .i32 l, .int .i32 r] w fun e w' => ∃ x, e = .returned (.int .i32 x) ∧ R x w') :
    Calls Try.prog 15 #[.pointer (some a), .int .i32 v, .int .i32 l, .int .i32 r] w fun e w' => ∃ x, e = .returned (.int .i32 x) ∧ R x w' := by
  have H : Hid (Calls Try.prog 35 #[.pointer (some a), .int .i32 v, .int .i32 l, .int .i32 r] w fun e w' => ∃ x, e = .returned (.int .i32 x) ∧ R x w') := h
  clear h
  go_enter Try.func15, Try.ntmps15
  go_wp2_with (go_at_call 35; refine H.out.mono ?_; rintro e w' ⟨x, rfl, hR⟩)
  go_ret
  exact ⟨_, rfl, hR⟩

theorem nodeAt_any (D g n c i : Nat) (x y z : Int) (vu vd : Value) (w : World) (hD : Blk w D [.slice (some ⟨g, 0, none⟩) n c, vu, vd] 52) (hi : i < n) (hn : n ≤ 10000)
   (c0 : w.cell? ⟨g, i * 3, none⟩ = some (.int .i32 x)) (c1 : w.cell? ⟨g, i * 3 + 1, none⟩ = some (.int .i32 y)) (c2 : w.cell? ⟨g, i * 3 + 2, none⟩ = some (.int .i32 z)) :
    Calls Try.prog 17 #[.pointer (some ⟨D, 0, none⟩), .int .i64 i] w fun e w' => e = .returned (.agg #[.int .i32 x, .int .i32 y, .int .i32 z]) ∧ w.alloc (.cells #[.int .i32 x, .int .i32 y, .int .i32 z] 31) = w' := by
  have d0 : w.cell? ⟨D, 0, none⟩ = some (.slice (some ⟨g, 0, none⟩) n c) := hD.cell rfl
  have hDl := hD.lt
  have hgl := block_lt_of_cell c0
  dsimp only at hgl
  go_enter Try.func17, Try.ntmps17
  go_wp2
  refine bodyPost_ret (v := .agg #[.int .i32 x, .int .i32 y, .int .i32 z]) (by simp [results, Try.results17, go_sem]) rfl ?_
  exact ⟨rfl, rfl⟩
end Go.Proofs.Qxb6600921a
