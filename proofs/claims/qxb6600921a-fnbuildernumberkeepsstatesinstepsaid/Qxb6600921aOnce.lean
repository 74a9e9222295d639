/-
  countOnce, ONE CONTRACT FOR EVERY STATE OF THE TABLE (co_any); ZZCountOnce and the small readers beside it.
-/
import Derived.Test.Qxb6600921aRe
namespace Go.Proofs.Qxb6600921a
open Go.RowKit
set_option linter.unusedVariables false

/-- The table of counted pairs as it stands in memory: still nil (So = none), or the row 'sl' in block S. -/
def CT (w : World) (B : Nat) (vi vp : Value) (pn : Int) (vt : Value) (So : Option Nat) (sl : List Int) : Prop :=
  (So = none ∧ sl = [] ∧ Blk w B (bl vi (.slice none 0 0) 0 vp pn vt) 72) ∨
  ∃ S p, So = some S ∧ B ≠ S ∧ 2 ^ p = sl.length ∧ 64 ≤ sl.length ∧ Tab.Ok hN sl ∧ 2 * (Tab.keys sl).length ≤ sl.length ∧
    Blk w B (bl vi (.slice (some ⟨S, 0, none⟩) sl.length sl.length) (Tab.keys sl).length vp pn vt) 72 ∧ Ints w S .u64 74 sl

theorem pk_div {l r : Int} (hl : 0 ≤ l ∧ l ≤ 65536) (hr : 0 ≤ r ∧ r ≤ 65536) : pk l r / 4294967296 = l ∧ pk l r % 4294967296 = r := by unfold pk; omega
theorem pk_ne {l r : Int} (hl : 0 ≤ l ∧ l ≤ 65536) (hr : 0 ≤ r ∧ r ≤ 65536) (h : l ≠ r) : pk l r ≠ 0 := by unfold pk; omega
theorem live_pk {into : List Int} {l r : Int} (hl : 0 ≤ l ∧ l ≤ 65536) (hr : 0 ≤ r ∧ r ≤ 65536) (h : l ≠ r) : liveB into (pk l r) = (decide (into.getD l.toNat 0 < 0) && decide (into.getD r.toNat 0 < 0)) := by
  unfold liveB
  have h1 := pk_div hl hr
  have h2 := pk_ne hl hr h
  rw [h1.1, h1.2, bne_iff_ne.2 h2]; rfl

theorem pow_le_16 {p : Nat} (h : 2 ^ p ≤ 65536) : p ≤ 16 := by
  rcases Nat.lt_or_ge 16 p with h1 | h1
  · have : 2 ^ 17 ≤ 2 ^ p := Nat.pow_le_pow_right (by decide) h1
    omega
  · exact h1

theorem co_any (B I T : Nat) (into : List Int) (vp vt : Value) (pn l r : Int) (So : Option Nat) (sl : List Int) (w : World)
    (hC : CT w B (.slice (some ⟨I, 0, none⟩) T T) vp pn vt So sl) (hI : Ints w I .i32 21 into) (hT : into.length = T) (hT2 : T ≤ 65536) (hIB : I ≠ B) (hIS : So ≠ some I)
    (hl : 0 ≤ l ∧ l < T) (hr : 0 ≤ r ∧ r < T) (hlr : l ≠ r) (hlv : liveB into (pk l r) = true)
    (hbd : ∀ x ∈ sl, x ≠ 0 → 0 ≤ x ∧ x / 4294967296 < T ∧ x % 4294967296 < T) (hsz : sl.length ≤ 65536) :
    Calls Try.prog 38 #[.pointer (some ⟨B, 0, none⟩), .int .i32 l, .int .i32 r] w fun e w' => e = .returned (.bool (decide (pk l r ∉ Tab.keys sl))) ∧
      ∃ So' sl', CT w' B (.slice (some ⟨I, 0, none⟩) T T) vp pn vt So' sl' ∧ Upto (fun k => k = B ∨ So = some k) w w' ∧ (So' = So ∨ ∃ S, So' = some S ∧ w.heap.size < S) ∧ So' ≠ none ∧
        pk l r ∈ Tab.keys sl' ∧ (∀ x ∈ Tab.keys sl', x ∈ Tab.keys sl ∨ x = pk l r) ∧ (∀ x ∈ Tab.keys sl, liveB into x = true → x ∈ Tab.keys sl') ∧
        (sl'.length ≤ sl.length ∨ sl'.length ≤ 64 ∨ sl'.length < 8 * ((Tab.keys sl).length + 1)) := by
  have hk0 : pk l r ≠ 0 := pk_ne (by omega) (by omega) hlr
  have hkd := pk_div (l := l) (r := r) (by omega) (by omega)
  rcases hC with ⟨rfl, rfl, hB⟩ | ⟨S, p, rfl, hBS, hp, h64, ok, hhalf, hB, hS⟩
  · refine (co_new B _ vp vt pn l r w (by omega) (by omega) hk0 hB).mono ?_
    rintro e w' ⟨rfl, hu, hB', hS'⟩
    have hm : hN (pk l r) % 64 < 64 := Nat.mod_lt _ (by omega)
    have e0 := Tab.Ok.empty hN 64 (by omega)
    have hz : (List.replicate 64 (0 : Int)).getD ((hN (pk l r) + 0) % 64) 0 = 0 := by
      rw [List.getD_eq_getElem?_getD, List.getElem?_replicate]
      split <;> rfl
    have ok := e0.put (pk l r) hk0 (by rw [Tab.keys_replicate]; simp) 0 (by simp) (by simpa using hz) (fun e he => absurd he (by omega)) (by rw [Tab.keys_replicate]; simp)
    have hpm := Tab.keys_set (sl := List.replicate 64 0) (s := (hN (pk l r) + 0) % 64) (k := pk l r) (by simpa using hm) hz hk0
    rw [Tab.keys_replicate] at hpm
    simp only [List.length_replicate, Nat.add_zero] at ok hpm
    have hlen : ((List.replicate 64 0).set (hN (pk l r) % 64) (pk l r)).length = 64 := by simp
    have hkl : (Tab.keys ((List.replicate 64 0).set (hN (pk l r) % 64) (pk l r))).length = 1 := by rw [hpm.length_eq]; rfl
    refine ⟨ret_bool (by simp [Tab.keys]), some (w.heap.size + 1), _, Or.inr ⟨w.heap.size + 1, 6, rfl, ?_, ?_, ?_, ok, ?_, ?_, hS'⟩, ?_, Or.inr ⟨_, rfl, by omega⟩, by simp, ?_, ?_, ?_, ?_⟩
    · have := hB.lt; omega
    · exact hlen.symm
    · rw [hlen]; omega
    · rw [hlen, hkl]; omega
    · rw [hlen, hkl]; exact hB'
    · exact hu.mono (fun k _ h => Or.inl h)
    · rw [hpm.mem_iff]; simp
    · intro x hx; rw [hpm.mem_iff] at hx; right; simpa using hx
    · intro x hx; simp [Tab.keys] at hx
    · right; left; rw [hlen]; omega
  · have hp16 := pow_le_16 (p := p) (by omega)
    have hIS' : I ≠ S := fun e => hIS (by rw [e])
    by_cases hk : pk l r ∈ Tab.keys sl
    · obtain ⟨d, hd, h0, hw⟩ := ok.hit _ hk
      refine (co_hit B S p _ d _ vp vt pn l r sl w (by omega) (by omega) sl.length hp (by omega) (by omega) rfl hB hS hd h0 hk0 hw).mono ?_
      rintro e w' ⟨rfl, rfl⟩
      refine ⟨ret_bool (by simp [hk]), some S, sl, Or.inr ⟨S, p, rfl, hBS, hp, h64, ok, hhalf, hB.alloc _, Blk.alloc hS _⟩, (Upto.refl _ _).alloc _, Or.inl rfl, by simp, hk, fun x hx => Or.inl hx, fun x hx _ => hx, Or.inl (Nat.le_refl _)⟩
    · obtain ⟨d, hd, h0, hw⟩ := ok.miss _ hk
      have hw' : ∀ e, e < d → sl.getD ((hN (pk l r) + e) % sl.length) 0 ≠ 0 ∧ sl.getD ((hN (pk l r) + e) % sl.length) 0 ≠ pk l r := fun e he => ⟨(hw e he).1, (hw e he).2 hk0⟩
      have hsl : (hN (pk l r) + d) % sl.length < sl.length := Nat.mod_lt _ (by omega)
      have hpm := Tab.keys_set hsl h0 hk0
      have hpl := hpm.length_eq
      simp only [List.length_cons] at hpl
      by_cases hroom : 2 * ((Tab.keys sl).length + 1) ≤ sl.length
      · refine (co_put B S p _ d _ vp vt pn l r sl w (by omega) (by omega) sl.length hp (by omega) (by omega) rfl hB hS hBS hd h0 hw' hroom).mono ?_
        rintro e w' ⟨rfl, hu, hB', hS'⟩
        have ok' := ok.put _ hk0 hk d hd h0 (fun e he => (hw e he).1) (by omega)
        refine ⟨ret_bool (by simp [hk]), some S, _, Or.inr ⟨S, p, rfl, hBS, ?_, ?_, ok', ?_, ?_, hS'⟩, ?_, Or.inl rfl, by simp, ?_, ?_, ?_, ?_⟩
        · rw [List.length_set]; exact hp
        · rw [List.length_set]; exact h64
        · rw [List.length_set, hpl]; exact hroom
        · rw [List.length_set, hpl]; exact hB'
        · exact hu.mono (fun k _ h => by rcases h with h | h; exact Or.inl h; exact Or.inr (by rw [h]))
        · rw [hpm.mem_iff]; simp
        · intro x hx; rw [hpm.mem_iff] at hx; rcases List.mem_cons.1 hx with h | h
          · exact Or.inr h
          · exact Or.inl h
        · intro x hx _; rw [hpm.mem_iff]; simp [hx]
        · left; rw [List.length_set]; omega
      · refine (co_re B S I T p _ d into vp vt pn l r sl w (by omega) (by omega) sl.length hp (by omega) (by omega) rfl hB hS hBS hd h0 hw' (by omega) hhalf hI hIB hIS' hT ok.nodup hk hk0 hbd (by omega) h64 (by omega) (by omega) hT2).mono ?_
        rintro e w' ⟨rfl, S2, m2, p2, c, nsl, hp2, hp20, hm64, h2c, hm2, hS2, hu, hB', hS', hL, ok', hkc, hperm⟩
        subst hL
        subst hkc
        have hmem : ∀ x, x ∈ Tab.keys nsl ↔ (x ∈ Tab.keys sl ∨ x = pk l r) ∧ liveB into x = true := by
          intro x
          rw [hperm.mem_iff, List.mem_filter]
          constructor
          · rintro ⟨h1, h2⟩
            have h3 : x ∈ Tab.keys (sl.set ((hN (pk l r) + d) % sl.length) (pk l r)) := Tab.mem_keys.2 ⟨h1, live_ne _ h2⟩
            rw [hpm.mem_iff, List.mem_cons] at h3
            exact ⟨h3.symm, h2⟩
          · rintro ⟨h1, h2⟩
            have h3 : x ∈ Tab.keys (sl.set ((hN (pk l r) + d) % sl.length) (pk l r)) := by
              rw [hpm.mem_iff, List.mem_cons]; exact h1.symm
            exact ⟨(Tab.mem_keys.1 h3).1, h2⟩
        have hcl : (Tab.keys nsl).length ≤ (Tab.keys sl).length + 1 := by
          rw [hperm.length_eq, ← hpl]
          exact List.Sublist.length_le (filter_sub live_ne _)
        refine ⟨ret_bool (by simp [hk]), some S2, nsl, Or.inr ⟨S2, p2, rfl, ?_, hp2, hm64, ok', h2c, hB', hS'⟩, ?_, Or.inr ⟨_, rfl, hS2⟩, by simp, ?_, ?_, ?_, ?_⟩
        · have := hB.lt; omega
        · exact hu.mono (fun k _ h => by rcases h with h | h; exact Or.inl h; exact Or.inr (by rw [h]))
        · exact (hmem _).2 ⟨Or.inr rfl, hlv⟩
        · intro x hx; exact ((hmem x).1 hx).1
        · intro x hx hx2; exact (hmem x).2 ⟨Or.inl hx, hx2⟩
        · rcases hm2 with h | h
          · left; omega
          · right; right; omega

theorem zzOnce {R : Bool → World → Prop} (a : Addr) (l r : Int) (w : World) (h : Calls Try.prog 38 #[.pointer (some a), .int .i32 l, .int .i32 r] w fun e w' => ∃ b, e = .returned (.bool b) ∧ R b w') :
    Calls Try.prog 30 #[.pointer (some a), .int .i32 l, .int .i32 r] w fun e w' => ∃ b, e = .returned (.bool b) ∧ R b w' := by
  have H : Hid (Calls Try.prog 38 #[.pointer (some a), .int .i32 l, .int .i32 r] w fun e w' => ∃ b, e = .returned (.bool b) ∧ R b w') := h
  clear h
  go_enter Try.func30, Try.ntmps30
  go_wp2_with (go_at_call 38; refine H.out.mono ?_; rintro e w' ⟨b, rfl, hR⟩)
  go_ret
  exact ⟨_, rfl, hR⟩

theorem slots_any (B S m : Nat) (vi vp vt : Value) (n pn : Int) (w : World) (hB : Blk w B (bl vi (.slice (some ⟨S, 0, none⟩) m m) n vp pn vt) 72) :
    Calls Try.prog 32 #[.pointer (some ⟨B, 0, none⟩)] w fun e w' => e = .returned (.int .i64 m) ∧ w = w' := by
  have c6 : w.cell? ⟨B, 6, none⟩ = some (.slice (some ⟨S, 0, none⟩) m m) := hB.cell rfl
  go_enter Try.func32, Try.ntmps32
  go_wp2
  go_ret
  exact ⟨rfl, rfl⟩
theorem count_any (B : Nat) (vi vs vp vt : Value) (n pn : Int) (w : World) (hB : Blk w B (bl vi vs n vp pn vt) 72) :
    Calls Try.prog 33 #[.pointer (some ⟨B, 0, none⟩)] w fun e w' => e = .returned (.int .i64 n) ∧ w = w' := by
  have c7 : w.cell? ⟨B, 7, none⟩ = some (.int .i64 n) := hB.cell rfl
  go_enter Try.func33, Try.ntmps33
  go_wp2
  go_ret
  exact ⟨rfl, rfl⟩

theorem new_any (ao : Option Addr) (n c : Nat) (w : World) :
    Calls Try.prog 26 #[.slice ao n c] w fun e w' => e = .returned (.pointer (some ⟨w.heap.size, 0, none⟩)) ∧ Upto (fun _ => False) w w' ∧ Blk w' w.heap.size (bl (.slice ao n c) (.slice none 0 0) 0 (.slice none 0 0) 0 (.slice none 0 0)) 72 ∧ w'.heap.size = w.heap.size + 1 := by
  go_enter Try.func26, Try.ntmps26
  go_wp2
  go_ret
  exact ⟨rfl, (Upto.refl _ _).alloc _, Blk.new w (bl (.slice ao n c) (.slice none 0 0) 0 (.slice none 0 0) 0 (.slice none 0 0)) 72, by simp⟩

theorem findPair_as (gA gB cA cB : Nat) (ss : List (Int × Int)) (a b F : Int) (w : World) (hF : Hid (fp ss (a, b) = F)) (hlen : ss.length ≤ 1048576)
    (oA : ∃ base, w.ownsRow base 21 1 (.slice (some ⟨gA, 0, none⟩) ss.length cA) ss.length ((ss.map Prod.fst).map (Value.int .i32)))
    (oB : ∃ base, w.ownsRow base 21 1 (.slice (some ⟨gB, 0, none⟩) ss.length cB) ss.length ((ss.map Prod.snd).map (Value.int .i32))) :
    Calls Try.prog 22 #[.slice (some ⟨gA, 0, none⟩) ss.length cA, .slice (some ⟨gB, 0, none⟩) ss.length cB, .int .i32 a, .int .i32 b] w fun e w' => e = .returned (.int .i32 F) ∧ w = w' := by
  obtain ⟨_, oA⟩ := oA
  obtain ⟨_, oB⟩ := oB
  have := findPair_any gA gB cA cB ss a b w ss.length rfl hlen (fun i hi => ?_) (fun i hi => ?_)
  · rw [hF.out] at this; exact this
  · rw [oA.cellAt i (by omega), List.getElem?_map, List.getD_eq_getElem?_getD, List.getElem?_eq_getElem (by simpa using hi)]; simp
  · rw [oB.cellAt i (by omega), List.getElem?_map, List.getD_eq_getElem?_getD, List.getElem?_eq_getElem (by simpa using hi)]; simp
end Go.Proofs.Qxb6600921a
