/-
  hex4 and ZZhex4, each by its contract; the bit laws that they need.
-/
import Derived.Test.Qxb6601053aHx
import Derived.Test.Qxb6601053aMem
import Derived.Laws.CopyOwn
namespace Go.Proofs.Qxb6601053a
open Go.RowKit
set_option linter.unusedVariables false

theorem or_digit (r d : Nat) (hr : r < 4096) (hd : d < 16) : bits .or .i32 ((r : Int) * 16) (d : Int) = (r : Int) * 16 + d := by
  have h1 : (BitVec.ofInt 32 ((r : Int) * 16)).toNat = r * 16 := by
    rw [BitVec.toNat_ofInt]; omega
  have h2 : (BitVec.ofInt 32 (d : Int)).toNat = d := by
    rw [BitVec.toNat_ofInt]; omega
  have h3 : r * 16 ||| d = r * 16 + d := by
    have := Nat.shiftLeft_add_eq_or_of_lt (b := d) (i := 4) (by omega) r
    rw [Nat.shiftLeft_eq] at this
    exact this.symm
  show IntKind.wrap .i32 _ = _
  have h4 : (BitVec.ofInt 32 ((r : Int) * 16) ||| BitVec.ofInt 32 (d : Int)).toNat = r * 16 + d := by
    rw [BitVec.toNat_or, h1, h2, h3]
  have h5 : (IntKind.wrap .i32 ((BitVec.ofInt 32 ((r : Int) * 16) ||| BitVec.ofInt 32 (d : Int)).toNat : Int)) = (r : Int) * 16 + d := by
    rw [h4]
    simp [IntKind.wrap, IntKind.bits, IntKind.signed]
    omega
  exact h5

theorem and15 (x : Nat) (h : x < 65536) : bits .and .i64 (x : Int) 15 = ((x % 16 : Nat) : Int) := by
  have h1 : (BitVec.ofInt 64 (x : Int)).toNat = x := by
    rw [BitVec.toNat_ofInt]; omega
  have h2 : (BitVec.ofInt 64 (15 : Int)).toNat = 15 := by decide
  have h3 : x &&& 15 = x % 16 := Nat.and_two_pow_sub_one_eq_mod x 4
  have h4 : (BitVec.ofInt 64 (x : Int) &&& BitVec.ofInt 64 (15 : Int)).toNat = x % 16 := by
    rw [BitVec.toNat_and, h1, h2, h3]
  have h5 : (IntKind.wrap .i64 ((BitVec.ofInt 64 (x : Int) &&& BitVec.ofInt 64 (15 : Int)).toNat : Int)) = ((x % 16 : Nat) : Int) := by
    rw [h4]
    simp [IntKind.wrap, IntKind.bits, IntKind.signed]
    omega
  exact h5

/-- The value of the first k digits. -/
def accH (dg : Nat → Nat) : Nat → Nat
  | 0 => 0
  | k + 1 => accH dg k * 16 + dg k
theorem accH_lt (dg : Nat → Nat) (h : ∀ k, k < 4 → dg k < 16) : ∀ k, k ≤ 4 → accH dg k < 16 ^ k := by
  intro k
  induction k with
  | zero => intro _; simp [accH]
  | succ n ih =>
    intro hk
    have h1 := ih (by omega)
    have h2 := h n (by omega)
    simp only [accH, Nat.pow_succ]
    omega

set_option maxRecDepth 100000 in
set_option maxHeartbeats 1000000 in
theorem hex4_at (D g n c at_ : Nat) (dg : Nat → Nat) (up : Nat → Bool) (rest : List Value) (w : World) (hat : at_ + 6 ≤ n) (hn : n ≤ 2097152) (hc : n ≤ c)
    (hD : Blk w D (.slice (some ⟨g, 0, none⟩) n c :: rest) 43) (h0 : w.cell? ⟨g, at_, none⟩ = some (.int .u8 92)) (h1 : w.cell? ⟨g, at_ + 1, none⟩ = some (.int .u8 117))
    (hx : ∀ k, k < 4 → w.cell? ⟨g, at_ + 2 + k, none⟩ = some (.int .u8 (hexd (dg k) (up k)))) (hd : ∀ k, k < 4 → dg k < 16) :
    Calls Try.prog 24 #[.pointer (some ⟨D, 0, none⟩), .int .i64 at_] w fun e w' => e = .returned (.tuple #[.int .i32 (accH dg 4), .bool true]) ∧ w = w' := by
  have c0 : w.cell? ⟨D, 0, none⟩ = some (.slice (some ⟨g, 0, none⟩) n c) := hD.cell rfl
  have HX : Hid (∀ k, k < 4 → w.cell? ⟨g, at_ + 2 + k, none⟩ = some (.int .u8 (hexd (dg k) (up k)))) := hx
  have HDg : Hid (∀ k, k < 4 → dg k < 16) := hd
  clear hx hd hD
  go_enter Try.func24, Try.ntmps24
  go_wp2
  rw [show at_ + 6 - (at_ + 2) = 4 from by omega]
  go_loop [6, 48] (fun r i => ∃ k : Nat, k ≤ 4 ∧ r = .int .i32 (accH dg k) ∧ i = .int .i64 k) (fun r i => 4 - (intOf i).toNat)
  case atStart => exact ⟨0, by omega, rfl, rfl⟩
  case round =>
    obtain ⟨k, hk, rfl, rfl⟩ := hrel
    by_cases hk4 : k < 4
    · have hcx := HX.out k hk4
      have hdk := HDg.out k hk4
      have hcase := hexd_cases (dg k) (up k) hdk
      have HA : Hid (accH dg (k + 1) = accH dg k * 16 + dg k) := rfl
      have ha : accH dg k < 4096 := by
        have h1 := accH_lt dg HDg.out k hk
        have h2 : 16 ^ k ≤ 16 ^ 3 := Nat.pow_le_pow_right (by omega) (by omega)
        omega
      have HOr := or_digit (accH dg k) (dg k) ha hdk
      generalize hxe : hexd (dg k) (up k) = x at hcx hcase
      generalize hre : accH dg k = r at HA ha HOr ⊢
      generalize hde : dg k = d at HA hdk HOr hcase
      have HR : Hid (accH dg (k + 1) = r * 16 + d) := HA.out
      clear HA hxe hre hde
      have hcx' : w.cell? ⟨g, at_ + (2 + k), none⟩ = some (.int .u8 x) := by rw [← Nat.add_assoc]; exact hcx
      rcases hcase with ⟨q1, q2, q3⟩ | ⟨q1, q2, q3⟩ | ⟨q1, q2, q3⟩
      · have hb : Hid (digB x = true) := by show digB x = true; simp [digB, q1, q2]
        go_wp2_with (go_at_call 26; refine (isDigit_any x _ true hb).mono ?_; rintro e w' ⟨rfl, rfl⟩)
        go_round
        case rel => exact ⟨k + 1, by omega, by rw [HR.out]; go_num, by go_num⟩
        case measure => simp [intOf]; omega
      · have hb : Hid (digB x = false) := by show digB x = false; have : ¬ x ≤ 57 := by omega
                                             simp [digB, this]
        go_wp2_with (go_at_call 26; refine (isDigit_any x _ false hb).mono ?_; rintro e w' ⟨rfl, rfl⟩)
        go_round
        case rel => exact ⟨k + 1, by omega, by rw [HR.out]; go_num, by go_num⟩
        case measure => simp [intOf]; omega
      · have hb : Hid (digB x = false) := by show digB x = false; have : ¬ x ≤ 57 := by omega
                                             simp [digB, this]
        go_wp2_with (go_at_call 26; refine (isDigit_any x _ false hb).mono ?_; rintro e w' ⟨rfl, rfl⟩)
        go_round
        case rel => exact ⟨k + 1, by omega, by rw [HR.out]; go_num, by go_num⟩
        case measure => simp [intOf]; omega
    · obtain rfl : k = 4 := by omega
      go_wp2
      refine bodyPost_ret (v := .tuple #[.int .i32 (accH dg 4), .bool true]) (by simp [results, Try.results24, go_sem]) rfl ?_
      exact ⟨rfl, rfl⟩

def dRest' : List Value := [.int .i64 0, .slice none 0 0, .slice none 0 0, .string ByteArray.empty, .string ByteArray.empty, .string ByteArray.empty, .string ByteArray.empty, .string ByteArray.empty, .string ByteArray.empty, .string ByteArray.empty, .string ByteArray.empty, .string ByteArray.empty, .string ByteArray.empty, .string ByteArray.empty, .string ByteArray.empty, .string ByteArray.empty, .string ByteArray.empty, .string ByteArray.empty, .string ByteArray.empty, .string ByteArray.empty, .string ByteArray.empty, .string ByteArray.empty, .string ByteArray.empty]

theorem cell_alloc {w : World} {g i : Nat} {v : Value} (h : w.cell? ⟨g, i, none⟩ = some v) (o : Obj) : (w.alloc o).cell? ⟨g, i, none⟩ = some v := by
  rw [← h]; exact World.cell?_of_block (w := w) (Below.heap_alloc w _ _ (block_lt_of_cell h))

set_option maxRecDepth 100000 in
set_option maxHeartbeats 1000000 in
theorem zzhex4_at (g n c at_ : Nat) (dg : Nat → Nat) (up : Nat → Bool) (w : World) (hat : at_ + 6 ≤ n) (hn : n ≤ 2097152) (hc : n ≤ c)
    (h0 : w.cell? ⟨g, at_, none⟩ = some (.int .u8 92)) (h1 : w.cell? ⟨g, at_ + 1, none⟩ = some (.int .u8 117))
    (hx : ∀ k, k < 4 → w.cell? ⟨g, at_ + 2 + k, none⟩ = some (.int .u8 (hexd (dg k) (up k)))) (hd : ∀ k, k < 4 → dg k < 16) :
    Calls Try.prog 13 #[.slice (some ⟨g, 0, none⟩) n c, .int .i64 at_] w fun e w' => e = .returned (.tuple #[.int .i32 (accH dg 4), .bool true]) ∧ Upto (fun _ => False) w w' := by
  have H0 : Hid (w.cell? ⟨g, at_, none⟩ = some (.int .u8 92)) := h0
  have H1 : Hid (w.cell? ⟨g, at_ + 1, none⟩ = some (.int .u8 117)) := h1
  have HX : Hid (∀ k, k < 4 → w.cell? ⟨g, at_ + 2 + k, none⟩ = some (.int .u8 (hexd (dg k) (up k)))) := hx
  have HDg : Hid (∀ k, k < 4 → dg k < 16) := hd
  clear h0 h1 hx hd
  go_enter Try.func13, Try.ntmps13
  go_wp2_with (fail)
  refine (hex4_at w.heap.size g n c at_ dg up dRest' _ hat hn hc (Blk.new w (.slice (some ⟨g, 0, none⟩) n c :: dRest') 43) (cell_alloc H0.out _) (cell_alloc H1.out _) (fun k hk => cell_alloc (HX.out k hk) _) HDg.out).mono ?_
  rintro e w' ⟨rfl, rfl⟩
  go_wp2
  refine bodyPost_ret (v := .tuple #[.int .i32 (accH dg 4), .bool true]) (by simp [results, Try.results13, go_sem]) rfl ?_
  exact ⟨rfl, (Upto.refl _ w).alloc _⟩
end Go.Proofs.Qxb6601053a
