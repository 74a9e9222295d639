/-
  FnEscapedTwoWayInverse: escaped and a JSON writer's short escapes, and the walk of the law.
-/
import Derived.Test.Qxb6601053aRows
import Derived.WalkKit
import Derived.WalkSpells
import Derived.WalkLawsBesides
namespace Go.Proofs.Qxb6601053a
open Go.RowKit
set_option linter.unusedVariables false

/-- The letter that a JSON writer puts behind a backslash. -/
def sel (c : Int) : Int × Bool :=
  if c = 34 then (34, true) else if c = 92 then (92, true) else if c = 8 then (98, true) else if c = 12 then (102, true) else if c = 10 then (110, true) else if c = 13 then (114, true) else if c = 9 then (116, true) else (0, false)
/-- The character that a backslash and a letter stand for. -/
def esc (c : Int) : Int × Bool :=
  if c = 34 then (34, true) else if c = 92 then (92, true) else if c = 47 then (47, true) else if c = 98 then (8, true) else if c = 102 then (12, true) else if c = 110 then (10, true) else if c = 114 then (13, true) else if c = 116 then (9, true) else (0, false)

set_option maxRecDepth 100000 in
set_option maxHeartbeats 1000000 in
theorem sel_any (c : Int) (w : World) (hc : 0 ≤ c ∧ c ≤ 255) (x : Int) (b : Bool) (hx : Hid (sel c = (x, b))) :
    Calls Try.prog 11 #[.int .u8 c] w fun e w' => e = .returned (.tuple #[.int .u8 x, .bool b]) ∧ w = w' := by
  have h := hx.out
  clear hx
  unfold sel at h
  by_cases h34 : c = 34
  · subst h34; simp at h; obtain ⟨rfl, rfl⟩ := h
    go_enter Try.func11, Try.ntmps11
    go_wp2
    go_ret2
    exact ⟨rfl, rfl⟩
  by_cases h92 : c = 92
  · subst h92; simp at h; obtain ⟨rfl, rfl⟩ := h
    go_enter Try.func11, Try.ntmps11
    go_wp2
    go_ret2
    exact ⟨rfl, rfl⟩
  by_cases h8 : c = 8
  · subst h8; simp at h; obtain ⟨rfl, rfl⟩ := h
    go_enter Try.func11, Try.ntmps11
    go_wp2
    go_ret2
    exact ⟨rfl, rfl⟩
  by_cases h12 : c = 12
  · subst h12; simp at h; obtain ⟨rfl, rfl⟩ := h
    go_enter Try.func11, Try.ntmps11
    go_wp2
    go_ret2
    exact ⟨rfl, rfl⟩
  by_cases h10 : c = 10
  · subst h10; simp at h; obtain ⟨rfl, rfl⟩ := h
    go_enter Try.func11, Try.ntmps11
    go_wp2
    go_ret2
    exact ⟨rfl, rfl⟩
  by_cases h13 : c = 13
  · subst h13; simp at h; obtain ⟨rfl, rfl⟩ := h
    go_enter Try.func11, Try.ntmps11
    go_wp2
    go_ret2
    exact ⟨rfl, rfl⟩
  by_cases h9 : c = 9
  · subst h9; simp at h; obtain ⟨rfl, rfl⟩ := h
    go_enter Try.func11, Try.ntmps11
    go_wp2
    go_ret2
    exact ⟨rfl, rfl⟩
  rw [if_neg h34, if_neg h92, if_neg h8, if_neg h12, if_neg h10, if_neg h13, if_neg h9] at h
  obtain ⟨rfl, rfl⟩ := Prod.mk.inj h
  clear h
  go_enter Try.func11, Try.ntmps11
  go_wp2
  go_ret2
  exact ⟨rfl, rfl⟩

set_option maxRecDepth 100000 in
set_option maxHeartbeats 1000000 in
theorem esc_any (c : Int) (w : World) (hc : 0 ≤ c ∧ c ≤ 255) (x : Int) (b : Bool) (hx : Hid (esc c = (x, b))) :
    Calls Try.prog 10 #[.int .u8 c] w fun e w' => e = .returned (.tuple #[.int .i32 x, .bool b]) ∧ w = w' := by
  have h := hx.out
  clear hx
  unfold esc at h
  by_cases h34 : c = 34
  · subst h34; simp at h; obtain ⟨rfl, rfl⟩ := h
    go_enter Try.func10, Try.ntmps10
    go_wp2
    go_ret2
    exact ⟨rfl, rfl⟩
  by_cases h92 : c = 92
  · subst h92; simp at h; obtain ⟨rfl, rfl⟩ := h
    go_enter Try.func10, Try.ntmps10
    go_wp2
    go_ret2
    exact ⟨rfl, rfl⟩
  by_cases h47 : c = 47
  · subst h47; simp at h; obtain ⟨rfl, rfl⟩ := h
    go_enter Try.func10, Try.ntmps10
    go_wp2
    go_ret2
    exact ⟨rfl, rfl⟩
  by_cases h98 : c = 98
  · subst h98; simp at h; obtain ⟨rfl, rfl⟩ := h
    go_enter Try.func10, Try.ntmps10
    go_wp2
    go_ret2
    exact ⟨rfl, rfl⟩
  by_cases h102 : c = 102
  · subst h102; simp at h; obtain ⟨rfl, rfl⟩ := h
    go_enter Try.func10, Try.ntmps10
    go_wp2
    go_ret2
    exact ⟨rfl, rfl⟩
  by_cases h110 : c = 110
  · subst h110; simp at h; obtain ⟨rfl, rfl⟩ := h
    go_enter Try.func10, Try.ntmps10
    go_wp2
    go_ret2
    exact ⟨rfl, rfl⟩
  by_cases h114 : c = 114
  · subst h114; simp at h; obtain ⟨rfl, rfl⟩ := h
    go_enter Try.func10, Try.ntmps10
    go_wp2
    go_ret2
    exact ⟨rfl, rfl⟩
  by_cases h116 : c = 116
  · subst h116; simp at h; obtain ⟨rfl, rfl⟩ := h
    go_enter Try.func10, Try.ntmps10
    go_wp2
    go_ret2
    exact ⟨rfl, rfl⟩
  rw [if_neg h34, if_neg h92, if_neg h47, if_neg h98, if_neg h102, if_neg h110, if_neg h114, if_neg h116] at h
  obtain ⟨rfl, rfl⟩ := Prod.mk.inj h
  clear h
  go_enter Try.func10, Try.ntmps10
  go_wp2
  go_ret2
  exact ⟨rfl, rfl⟩

theorem not_sel {c : Int} (h : (esc c).2 = false) (k : Int) (hk : (sel k).2 = true) : (sel k).1 ≠ c := by
  intro e
  unfold esc at h
  unfold sel at hk e
  repeat' split at hk
  all_goals simp_all
  all_goals (subst e; simp at h)

set_option maxRecDepth 100000 in
set_option maxHeartbeats 1000000 in
theorem law3_ok (c r : Int) (w : World) (hc : 0 ≤ c ∧ c ≤ 255) (hr : 0 ≤ r ∧ r ≤ 255) (h : esc c = (r, true)) (hs : sel r = (c, true)) (h47 : (c == 47) = false) :
    Calls Try.prog 3 #[.int .u8 c] w fun e w' => e = .returned (.bool true) ∧ w = w' := by
  have H : Hid (esc c = (r, true)) := h
  have HS : Hid (sel r = (c, true)) := hs
  have hcc : (c == c) = true := beq_self_eq_true _
  clear h hs
  go_enter Try.func3, Try.ntmps3
  go_wp2_with (first | (go_at_call 10; refine (esc_any c _ hc _ _ H).mono ?_; rintro e w' ⟨rfl, rfl⟩) | (go_at_call 11; refine (sel_any r _ hr _ _ HS).mono ?_; rintro e w' ⟨rfl, rfl⟩))
  go_ret
  exact ⟨rfl, rfl⟩

set_option maxRecDepth 100000 in
set_option maxHeartbeats 1000000 in
theorem law3_slash (w : World) :
    Calls Try.prog 3 #[.int .u8 47] w fun e w' => e = .returned (.bool true) ∧ w = w' := by
  have H : Hid (esc 47 = (47, true)) := rfl
  go_enter Try.func3, Try.ntmps3
  go_wp2_with (go_at_call 10; refine (esc_any 47 _ (by omega) _ _ H).mono ?_; rintro e w' ⟨rfl, rfl⟩)
  go_ret
  exact ⟨rfl, rfl⟩

set_option maxRecDepth 100000 in
set_option maxHeartbeats 1000000 in
theorem law3_no (c : Int) (w : World) (hc : 0 ≤ c ∧ c ≤ 255) (h : esc c = (0, false)) :
    Calls Try.prog 3 #[.int .u8 c] w fun e w' => e = .returned (.bool true) ∧ w = w' := by
  have H : Hid (esc c = (0, false)) := h
  have HN : Hid (∀ k, (sel k).2 = true → (sel k).1 ≠ c) := fun k hk => not_sel (by rw [h]) k hk
  clear h
  go_enter Try.func3, Try.ntmps3
  go_wp2_with (go_at_call 10; refine (esc_any c _ hc _ _ H).mono ?_; rintro e w' ⟨rfl, rfl⟩)
  go_loop [7] (fun i => ∃ k : Nat, k ≤ 256 ∧ i = .int .i64 k) (fun i => 256 - (intOf i).toNat)
  case atStart => exact ⟨0, by omega, rfl⟩
  case round =>
    obtain ⟨k, hk, rfl⟩ := hrel
    by_cases hlt : k < 256
    · obtain ⟨x, b, hxb⟩ : ∃ x b, sel (k : Int) = (x, b) := ⟨_, _, rfl⟩
      have hn := HN.out k
      rw [hxb] at hn
      have HX : Hid (sel (k : Int) = (x, b)) := hxb
      clear hxb
      cases b
      · clear hn
        go_wp2_with (go_at_call 11; refine (sel_any k _ (by omega) _ _ HX).mono ?_; rintro e w' ⟨rfl, rfl⟩)
        go_round
        case rel => exact ⟨k + 1, by omega, by go_num⟩
        case measure => simp [intOf]; omega
      · have hxc : (x == c) = false := by simpa using hn rfl
        clear hn
        go_wp2_with (go_at_call 11; refine (sel_any k _ (by omega) _ _ HX).mono ?_; rintro e w' ⟨rfl, rfl⟩)
        go_round
        case rel => exact ⟨k + 1, by omega, by go_num⟩
        case measure => simp [intOf]; omega
    · go_wp2
      go_ret
      exact ⟨rfl, rfl⟩

theorem law3 (c : Int) (w : World) (hc : 0 ≤ c ∧ c ≤ 255) : Calls Try.prog 3 #[.int .u8 c] w fun e w' => e = .returned (.bool true) ∧ w = w' := by
  by_cases h34 : c = 34
  · subst h34; exact law3_ok 34 34 w hc (by omega) rfl rfl rfl
  by_cases h92 : c = 92
  · subst h92; exact law3_ok 92 92 w hc (by omega) rfl rfl rfl
  by_cases h47 : c = 47
  · subst h47; exact law3_slash w
  by_cases h98 : c = 98
  · subst h98; exact law3_ok 98 8 w hc (by omega) rfl rfl rfl
  by_cases h102 : c = 102
  · subst h102; exact law3_ok 102 12 w hc (by omega) rfl rfl rfl
  by_cases h110 : c = 110
  · subst h110; exact law3_ok 110 10 w hc (by omega) rfl rfl rfl
  by_cases h114 : c = 114
  · subst h114; exact law3_ok 114 13 w hc (by omega) rfl rfl rfl
  by_cases h116 : c = 116
  · subst h116; exact law3_ok 116 9 w hc (by omega) rfl rfl rfl
  refine law3_no c w hc ?_
  unfold esc
  rw [if_neg h34, if_neg h92, if_neg h47, if_neg h98, if_neg h102, if_neg h110, if_neg h114, if_neg h116]
end Go.Proofs.Qxb6601053a
