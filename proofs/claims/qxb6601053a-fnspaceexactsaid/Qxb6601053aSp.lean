/-
  space and isJSONSpace, each by its contract.
-/
import Derived.Test.Qxb6601053aRows
import Derived.Test.Qxb6601053aMem
import Derived.WalkSpells
import Derived.WalkLawsBesides
import Derived.Laws.CopyOwn
import Derived.Deep.DeepCutAuto
namespace Go.Proofs.Qxb6601053a
open Go.RowKit
set_option linter.unusedVariables false

theorem ret_int {k : IntKind} {a b : Int} (h : a = b) : Ending.returned (.int k a) = .returned (.int k b) := by rw [h]
theorem ret_bool {a b : Bool} (h : a = b) : Ending.returned (.bool a) = .returned (.bool b) := by rw [h]

/-- JSON's whitespace. -/
def sp (c : Int) : Bool := c == 32 || (c == 9 || (c == 10 || c == 13))

set_option maxRecDepth 100000 in
set_option maxHeartbeats 1000000 in
theorem isSp_any (c : Int) (w : World) (b : Bool) (hb : Hid (sp c = b)) :
    Calls Try.prog 20 #[.int .u8 c] w fun e w' => e = .returned (.bool b) ∧ w = w' := by
  go_enter Try.func20, Try.ntmps20
  go_wp2
  go_loop [3] (fun i => ∃ k : Nat, k ≤ 4 ∧ i = .int .i64 k ∧ Hid ((0 < k → c ≠ 32) ∧ (1 < k → c ≠ 9) ∧ (2 < k → c ≠ 10) ∧ (3 < k → c ≠ 13))) (fun i => 4 - (intOf i).toNat)
  case atStart => exact ⟨0, by omega, rfl, by omega, by omega, by omega, by omega⟩
  case round =>
    obtain ⟨k, hk, rfl, HK⟩ := hrel
    match k, hk with
    | 0, _ =>
      by_cases h : c = 32
      · have HB : Hid (b = true) := by show b = true; rw [← hb.out]; simp [sp, h]
        go_wp2
        go_ret
        exact ⟨ret_bool HB.out.symm, rfl⟩
      · have h' : ((32 : Int) == c) = false := by rw [beq_eq_false_iff_ne]; omega
        have h2 : (((({ data := #[32, 9, 10, 13] } : ByteArray)[0]'(by decide)).toNat : Int) == c) = false := h'
        have HK' : Hid ((0 < 0 + 1 → c ≠ 32) ∧ (1 < 0 + 1 → c ≠ 9) ∧ (2 < 0 + 1 → c ≠ 10) ∧ (3 < 0 + 1 → c ≠ 13)) := by
          have := HK.out
          exact ⟨fun _ => by omega, fun _ => by omega, fun _ => by omega, fun _ => by omega⟩
        go_wp2
        go_round
        case rel => exact ⟨0 + 1, by omega, by go_num, HK'⟩
        case measure => simp [intOf]
    | 1, _ =>
      by_cases h : c = 9
      · have HB : Hid (b = true) := by show b = true; rw [← hb.out]; simp [sp, h]
        go_wp2
        go_ret
        exact ⟨ret_bool HB.out.symm, rfl⟩
      · have h' : ((9 : Int) == c) = false := by rw [beq_eq_false_iff_ne]; omega
        have h2 : (((({ data := #[32, 9, 10, 13] } : ByteArray)[1]'(by decide)).toNat : Int) == c) = false := h'
        have HK' : Hid ((0 < 1 + 1 → c ≠ 32) ∧ (1 < 1 + 1 → c ≠ 9) ∧ (2 < 1 + 1 → c ≠ 10) ∧ (3 < 1 + 1 → c ≠ 13)) := by
          have := HK.out
          exact ⟨fun _ => by omega, fun _ => by omega, fun _ => by omega, fun _ => by omega⟩
        go_wp2
        go_round
        case rel => exact ⟨1 + 1, by omega, by go_num, HK'⟩
        case measure => simp [intOf]
    | 2, _ =>
      by_cases h : c = 10
      · have HB : Hid (b = true) := by show b = true; rw [← hb.out]; simp [sp, h]
        go_wp2
        go_ret
        exact ⟨ret_bool HB.out.symm, rfl⟩
      · have h' : ((10 : Int) == c) = false := by rw [beq_eq_false_iff_ne]; omega
        have h2 : (((({ data := #[32, 9, 10, 13] } : ByteArray)[2]'(by decide)).toNat : Int) == c) = false := h'
        have HK' : Hid ((0 < 2 + 1 → c ≠ 32) ∧ (1 < 2 + 1 → c ≠ 9) ∧ (2 < 2 + 1 → c ≠ 10) ∧ (3 < 2 + 1 → c ≠ 13)) := by
          have := HK.out
          exact ⟨fun _ => by omega, fun _ => by omega, fun _ => by omega, fun _ => by omega⟩
        go_wp2
        go_round
        case rel => exact ⟨2 + 1, by omega, by go_num, HK'⟩
        case measure => simp [intOf]
    | 3, _ =>
      by_cases h : c = 13
      · have HB : Hid (b = true) := by show b = true; rw [← hb.out]; simp [sp, h]
        go_wp2
        go_ret
        exact ⟨ret_bool HB.out.symm, rfl⟩
      · have h' : ((13 : Int) == c) = false := by rw [beq_eq_false_iff_ne]; omega
        have h2 : (((({ data := #[32, 9, 10, 13] } : ByteArray)[3]'(by decide)).toNat : Int) == c) = false := h'
        have HK' : Hid ((0 < 3 + 1 → c ≠ 32) ∧ (1 < 3 + 1 → c ≠ 9) ∧ (2 < 3 + 1 → c ≠ 10) ∧ (3 < 3 + 1 → c ≠ 13)) := by
          have := HK.out
          exact ⟨fun _ => by omega, fun _ => by omega, fun _ => by omega, fun _ => by omega⟩
        go_wp2
        go_round
        case rel => exact ⟨3 + 1, by omega, by go_num, HK'⟩
        case measure => simp [intOf]
    | 4, _ =>
      have HB : Hid (b = false) := by
        show b = false
        have := HK.out
        rw [← hb.out]
        simp [sp]
        omega
      go_wp2
      go_ret
      exact ⟨ret_bool HB.out.symm, rfl⟩

/-- What holds of the place where space stops. -/
def Stops (zs : List Int) (at_ e : Nat) : Prop := at_ ≤ e ∧ (∀ j, at_ ≤ j → j < e → j < zs.length ∧ sp (zs.getD j 0) = true) ∧ (zs.length ≤ e ∨ sp (zs.getD e 0) = false)

/-- The decoder's block: its data, its place, and the rest. -/
def dcs (vd : Value) (k : Int) (rest : List Value) : List Value := vd :: .int .i64 k :: rest

/-- The data: where there is a byte, they lie in block g. -/
def Dat (w : World) (ao : Option Addr) (zs : List Int) : Prop := 0 < zs.length → ∃ g, ao = some ⟨g, 0, none⟩ ∧ Ints w g .u8 5 zs

set_option maxRecDepth 100000 in
set_option maxHeartbeats 1000000 in
theorem space_some (D g n c at_ : Nat) (zs : List Int) (rest : List Value) (w : World) (hn : zs.length = n) (hn2 : n ≤ 1048576) (hat : at_ ≤ 1048576)
    (hD : Blk w D (dcs (.slice (some ⟨g, 0, none⟩) n c) at_ rest) 43) (hg : Ints w g .u8 5 zs) (hDg : D ≠ g) :
    Calls Try.prog 25 #[.pointer (some ⟨D, 0, none⟩)] w fun e w' => e = .returned (.tuple #[]) ∧ ∃ k : Nat, Stops zs at_ k ∧ Upto (fun k => k = D) w w' ∧ Blk w' D (dcs (.slice (some ⟨g, 0, none⟩) n c) k rest) 43 := by
  have HN : Hid (zs.length = n) := hn
  have HD : Hid (Blk w D (dcs (.slice (some ⟨g, 0, none⟩) n c) at_ rest) 43) := hD
  have HG : Hid (Ints w g .u8 5 zs) := hg
  clear hn hD hg
  go_enter Try.func25, Try.ntmps25
  go_wp2
  go_loopw [] (fun wr => ∃ k : Nat, at_ ≤ k ∧ k ≤ 2097152 ∧ Hid (Upto (fun k => k = D) w wr) ∧ Hid (Blk wr D (dcs (.slice (some ⟨g, 0, none⟩) n c) k rest) 43) ∧ Hid (∀ j, at_ ≤ j → j < k → j < zs.length ∧ sp (zs.getD j 0) = true)) (fun wr => 2097152 - (intOf ((wr.cell? ⟨D, 1, none⟩).getD (.bool false))).toNat)
  case atStart => exact ⟨at_, by omega, by omega, Upto.refl _ _, HD, fun j h1 h2 => by omega⟩
  case round =>
    obtain ⟨k, hk, hk2, HU, HB, HJ⟩ := hrel
    have c0 : wr.cell? ⟨D, 0, none⟩ = some (.slice (some ⟨g, 0, none⟩) n c) := HB.out.cell rfl
    have c1 : wr.cell? ⟨D, 1, none⟩ = some (.int .i64 k) := HB.out.cell rfl
    have f1 := HB.out.frozen 1
    have hk0 : (0 : Int) ≤ (k : Int) := by omega
    by_cases hlt : k < n
    · have HG' : Hid (Ints wr g .u8 5 zs) := HU.out.ints HG.out (fun e => hDg e.symm)
      have cx := HG'.out.cell (i := k) (by rw [HN.out]; exact hlt)
      have hkn : (k : Int) < (n : Int) := by omega
      cases hsp : sp (zs.getD k 0)
      · have HSP : Hid (sp (zs.getD k 0) = false) := hsp
        generalize hx : zs.getD k 0 = x at cx hsp
        have h32 : (x == 32) = false := by simp [sp] at hsp; simp [hsp]
        have h9 : (x == 9) = false := by simp [sp] at hsp; simp [hsp]
        have h10 : (x == 10) = false := by simp [sp] at hsp; simp [hsp]
        have h13 : (x == 13) = false := by simp [sp] at hsp; simp [hsp]
        clear hsp hx
        go_wp2
        go_quiet (fail)
        go_wp2
        go_quiet (fail)
        go_wp2
        refine bodyPost_ret (v := .tuple #[]) (by simp [results, Try.results25, go_sem]) rfl ?_
        exact ⟨rfl, k, ⟨hk, HJ.out, Or.inr HSP.out⟩, HU.out.drewN _, HB.out.drewN _⟩
      · have HSP : Hid (sp (zs.getD k 0) = true) := hsp
        generalize hx : zs.getD k 0 = x at cx hsp
        clear hx
        have hx4 : x = 32 ∨ x = 9 ∨ x = 10 ∨ x = 13 := by simp [sp] at hsp; exact hsp
        clear hsp
        have MS : ∀ (q : Nat) (wq : World), Blk wq D (dcs (.slice (some ⟨g, 0, none⟩) n c) q rest) 43 → (intOf ((wq.cell? ⟨D, 1, none⟩).getD (.bool false))).toNat = q := by
          intro q wq hq
          have : wq.cell? ⟨D, 1, none⟩ = some (.int .i64 q) := hq.cell rfl
          rw [this]; simp [intOf]
        have HMS : Hid (∀ (q : Nat) (wq : World), Blk wq D (dcs (.slice (some ⟨g, 0, none⟩) n c) q rest) 43 → (intOf ((wq.cell? ⟨D, 1, none⟩).getD (.bool false))).toNat = q) := MS
        clear MS
        by_cases h32 : x = 32
        · subst h32
          clear hx4
          go_wp2
          go_quiet (fail)
          go_wp2
          go_quiet (fail)
          go_wp2
          refine ⟨⟨k + 1, by omega, by omega, (HU.out.drewN _).setCell (p := ⟨D, 1, none⟩) (fun _ => rfl) _, (HB.out.drewN _).set 1 _, ?_⟩, ?_⟩
          · intro j h1 h2
            by_cases e : j = k
            · subst e; exact ⟨by rw [HN.out]; exact hlt, HSP.out⟩
            · exact HJ.out j h1 (by omega)
          · rw [HMS.out k wr HB.out, HMS.out (k + 1) _ ((HB.out.drewN _).set 1 (.int .i64 (k + 1)))]
            omega
        by_cases h9 : x = 9
        · subst h9
          clear hx4
          go_wp2
          go_quiet (fail)
          go_wp2
          go_quiet (fail)
          go_wp2
          refine ⟨⟨k + 1, by omega, by omega, (HU.out.drewN _).setCell (p := ⟨D, 1, none⟩) (fun _ => rfl) _, (HB.out.drewN _).set 1 _, ?_⟩, ?_⟩
          · intro j h1 h2
            by_cases e : j = k
            · subst e; exact ⟨by rw [HN.out]; exact hlt, HSP.out⟩
            · exact HJ.out j h1 (by omega)
          · rw [HMS.out k wr HB.out, HMS.out (k + 1) _ ((HB.out.drewN _).set 1 (.int .i64 (k + 1)))]
            omega
        by_cases h10 : x = 10
        · subst h10
          clear hx4
          go_wp2
          go_quiet (fail)
          go_wp2
          go_quiet (fail)
          go_wp2
          refine ⟨⟨k + 1, by omega, by omega, (HU.out.drewN _).setCell (p := ⟨D, 1, none⟩) (fun _ => rfl) _, (HB.out.drewN _).set 1 _, ?_⟩, ?_⟩
          · intro j h1 h2
            by_cases e : j = k
            · subst e; exact ⟨by rw [HN.out]; exact hlt, HSP.out⟩
            · exact HJ.out j h1 (by omega)
          · rw [HMS.out k wr HB.out, HMS.out (k + 1) _ ((HB.out.drewN _).set 1 (.int .i64 (k + 1)))]
            omega
        · obtain rfl : x = 13 := by omega
          clear hx4
          go_wp2
          go_quiet (fail)
          go_wp2
          go_quiet (fail)
          go_wp2
          refine ⟨⟨k + 1, by omega, by omega, (HU.out.drewN _).setCell (p := ⟨D, 1, none⟩) (fun _ => rfl) _, (HB.out.drewN _).set 1 _, ?_⟩, ?_⟩
          · intro j h1 h2
            by_cases e : j = k
            · subst e; exact ⟨by rw [HN.out]; exact hlt, HSP.out⟩
            · exact HJ.out j h1 (by omega)
          · rw [HMS.out k wr HB.out, HMS.out (k + 1) _ ((HB.out.drewN _).set 1 (.int .i64 (k + 1)))]
            omega
    · have HL : Hid (zs.length ≤ k) := by show zs.length ≤ k; rw [HN.out]; omega
      have hkn : ¬ (k : Int) < (n : Int) := by omega
      have hd : decide ((k : Int) < (n : Int)) = false := decide_eq_false hkn
      go_wp2
      go_quiet (fail)
      go_wp2
      go_end0
      exact ⟨rfl, k, ⟨hk, HJ.out, Or.inl HL.out⟩, HU.out.drewN _, HB.out.drewN _⟩

set_option maxRecDepth 100000 in
set_option maxHeartbeats 1000000 in
theorem space_none (D c at_ : Nat) (ao : Option Addr) (rest : List Value) (w : World) (hat : at_ ≤ 1048576)
    (hD : Blk w D (dcs (.slice ao 0 c) at_ rest) 43) :
    Calls Try.prog 25 #[.pointer (some ⟨D, 0, none⟩)] w fun e w' => e = .returned (.tuple #[]) ∧ ∃ k : Nat, Stops [] at_ k ∧ Upto (fun k => k = D) w w' ∧ Blk w' D (dcs (.slice ao 0 c) k rest) 43 := by
  have HD : Hid (Blk w D (dcs (.slice ao 0 c) at_ rest) 43) := hD
  clear hD
  go_enter Try.func25, Try.ntmps25
  go_wp2
  go_loopw [] (fun wr => Hid (Upto (fun k => k = D) w wr) ∧ Hid (Blk wr D (dcs (.slice ao 0 c) at_ rest) 43)) (fun wr => 0)
  case atStart => exact ⟨Upto.refl _ _, HD⟩
  case round =>
    obtain ⟨HU, HB⟩ := hrel
    have c0 : wr.cell? ⟨D, 0, none⟩ = some (.slice ao 0 c) := HB.out.cell rfl
    have c1 : wr.cell? ⟨D, 1, none⟩ = some (.int .i64 at_) := HB.out.cell rfl
    have hd : decide ((at_ : Int) < 0) = false := decide_eq_false (by omega)
    go_wp2
    go_quiet (fail)
    go_wp2
    go_end0
    exact ⟨rfl, at_, ⟨Nat.le_refl _, fun j h1 h2 => by omega, Or.inl (Nat.zero_le _)⟩, HU.out.drewN _, HB.out.drewN _⟩

theorem space_any (D n c at_ : Nat) (ao : Option Addr) (zs : List Int) (rest : List Value) (w : World) (hn : zs.length = n) (hn2 : n ≤ 1048576) (hat : at_ ≤ 1048576)
    (hD : Blk w D (dcs (.slice ao n c) at_ rest) 43) (hg : Dat w ao zs) (hDg : 0 < n → ∀ g, ao = some ⟨g, 0, none⟩ → D ≠ g) :
    Calls Try.prog 25 #[.pointer (some ⟨D, 0, none⟩)] w fun e w' => e = .returned (.tuple #[]) ∧ ∃ k : Nat, Stops zs at_ k ∧ Upto (fun k => k = D) w w' ∧ Blk w' D (dcs (.slice ao n c) k rest) 43 := by
  by_cases h0 : n = 0
  · subst h0
    have : zs = [] := List.eq_nil_of_length_eq_zero hn
    subst this
    exact space_none D c at_ ao rest w hat hD
  · obtain ⟨g, rfl, hi⟩ := hg (by omega)
    exact space_some D g n c at_ zs rest w hn hn2 hat hD hi (hDg (by omega) g rfl)

def dRest : List Value := [.slice none 0 0, .slice none 0 0, .string ByteArray.empty, .string ByteArray.empty, .string ByteArray.empty, .string ByteArray.empty, .string ByteArray.empty, .string ByteArray.empty, .string ByteArray.empty, .string ByteArray.empty, .string ByteArray.empty, .string ByteArray.empty, .string ByteArray.empty, .string ByteArray.empty, .string ByteArray.empty, .string ByteArray.empty, .string ByteArray.empty, .string ByteArray.empty, .string ByteArray.empty, .string ByteArray.empty, .string ByteArray.empty, .string ByteArray.empty]

set_option maxRecDepth 100000 in
set_option maxHeartbeats 1000000 in
theorem zzspace_any (n c at_ : Nat) (ao : Option Addr) (zs : List Int) (w : World) (hn : zs.length = n) (hn2 : n ≤ 1048576) (hat : at_ ≤ 1048576) (hg : Dat w ao zs) :
    Calls Try.prog 19 #[.slice ao n c, .int .i64 at_] w fun e w' => ∃ k : Nat, e = .returned (.int .i64 k) ∧ Stops zs at_ k ∧ Upto (fun _ => False) w w' := by
  have HN : Hid (zs.length = n) := hn
  have HG : Hid (Dat w ao zs) := hg
  clear hn hg
  go_enter Try.func19, Try.ntmps19
  go_wp2_with (fail)
  refine (space_any w.heap.size n c at_ ao zs dRest _ HN.out hn2 hat (Blk.new w (dcs (.slice ao n c) at_ dRest) 43) ?_ ?_).mono ?_
  · intro h0
    obtain ⟨g, e, hi⟩ := HG.out h0
    exact ⟨g, e, Blk.alloc hi _⟩
  · intro h0 g e hDg
    obtain ⟨g', e', hi⟩ := HG.out (by rw [HN.out]; exact h0)
    rw [e] at e'
    cases e'
    have := Blk.lt hi
    omega
  · rintro e w1 ⟨rfl, k, hs, hu, hB⟩
    have c1 : w1.cell? ⟨w.heap.size, 1, none⟩ = some (.int .i64 k) := hB.cell rfl
    have HS : Hid (Stops zs at_ k) := hs
    have HU : Hid (Upto (fun k => k = w.heap.size) (w.alloc (.cells (dcs (.slice ao n c) at_ dRest).toArray 43)) w1) := hu
    clear hs hu hB
    go_wp2
    go_ret
    exact ⟨k, rfl, HS.out, (((Upto.refl (fun k => k = w.heap.size) w).alloc _).trans HU.out).mono (fun k hk e => by omega)⟩
end Go.Proofs.Qxb6601053a
