/-
  pairNumbers.number, ONE CONTRACT A CASE (the pair seen before; the pair new) OVER THE LIST OF PAIRS SEEN.
-/
import Derived.Test.Qxb6600921aNum
namespace Go.Proofs.Qxb6600921a
open Go.RowKit
set_option linter.unusedVariables false

/-- The pairs seen, numbered from 1. -/
def nb (ss : List (Int × Int)) : List Tab.NP := ss.mapIdx (fun i q => (pk q.1 q.2, (i : Int) + 1))
theorem nb_snoc (ss : List (Int × Int)) (q : Int × Int) : nb (ss ++ [q]) = nb ss ++ [(pk q.1 q.2, (ss.length : Int) + 1)] := by
  unfold nb; rw [List.mapIdx_append]; simp
theorem nb_len (ss : List (Int × Int)) : (nb ss).length = ss.length := by unfold nb; simp
theorem nb_mem {ss : List (Int × Int)} {x : Tab.NP} : x ∈ nb ss ↔ ∃ i, ∃ h : i < ss.length, (pk ss[i].1 ss[i].2, (i : Int) + 1) = x := by
  unfold nb; exact List.mem_mapIdx

def R32 (q : Int × Int) : Prop := -2147483648 ≤ q.1 ∧ q.1 ≤ 2147483647 ∧ -2147483648 ≤ q.2 ∧ q.2 ≤ 2147483647
theorem pk_inj32 {q r : Int × Int} (hq : R32 q) (hr : R32 r) (h : pk q.1 q.2 = pk r.1 r.2) : q = r := by
  unfold R32 at hq hr
  unfold pk at h
  exact Prod.ext (by omega) (by omega)

structure PN (w : World) (B o : Nat) (cs : List Value) (t : TypeId) (So : Option Nat) (ts : List Tab.NP) (ss : List (Int × Int)) : Prop where
  b : Blk w B cs t
  n : cs[o + 1]? = some (.int .i32 ss.length)
  tab : (So = none ∧ ts = [] ∧ ss = [] ∧ cs[o]? = some (.slice none 0 0)) ∨
    ∃ S p, So = some S ∧ B ≠ S ∧ 2 ^ p = ts.length ∧ 64 ≤ ts.length ∧ 2 * ss.length ≤ ts.length ∧ (ts.length ≤ 64 ∨ ts.length ≤ 4 * ss.length) ∧ Tab.Ok2 hN ts ∧
      cs[o]? = some (.slice (some ⟨S, 0, none⟩) ts.length ts.length) ∧ Blk w S (Tab.pcells ts) 79
  perm : (Tab.keys2 ts).Perm (nb ss)
  rng : ∀ q ∈ ss, R32 q
  nd : ss.Nodup

theorem PN.key {w : World} {B o : Nat} {cs : List Value} {t : TypeId} {So : Option Nat} {ts : List Tab.NP} {ss : List (Int × Int)} (h : PN w B o cs t So ts ss) {a b : Int} (hr : R32 (a, b)) :
    pk a b ∈ (Tab.keys2 ts).map Prod.fst ↔ (a, b) ∈ ss := by
  rw [(h.perm.map Prod.fst).mem_iff, List.mem_map]
  constructor
  · rintro ⟨x, hx, e⟩
    obtain ⟨i, hi, rfl⟩ := nb_mem.1 hx
    have hm : ss[i] ∈ ss := List.getElem_mem hi
    have : ss[i] = (a, b) := pk_inj32 (h.rng _ hm) hr e
    rw [← this]; exact hm
  · intro hm
    obtain ⟨i, hi, e⟩ := List.mem_iff_getElem.1 hm
    exact ⟨_, nb_mem.2 ⟨i, hi, rfl⟩, by rw [e]⟩

theorem PN.bd {w : World} {B o : Nat} {cs : List Value} {t : TypeId} {So : Option Nat} {ts : List Tab.NP} {ss : List (Int × Int)} (h : PN w B o cs t So ts ss) : ∀ x ∈ ts, x.2 ≠ 0 → 0 ≤ x.1 ∧ x.1 ≤ 18446744073709551615 := by
  intro x hx h0
  have := Tab.mem_keys2.2 ⟨hx, h0⟩
  rw [h.perm.mem_iff, nb_mem] at this
  obtain ⟨i, hi, rfl⟩ := this
  exact pk_bd _ _

theorem pow_le_18 {p : Nat} (h : 2 ^ p ≤ 262144) : p ≤ 18 := by
  rcases Nat.lt_or_ge 18 p with h1 | h1
  · have : 2 ^ 19 ≤ 2 ^ p := Nat.pow_le_pow_right (by decide) h1
    omega
  · exact h1

theorem num_seen (B o : Nat) (cs : List Value) (t : TypeId) (So : Option Nat) (ts : List Tab.NP) (ss : List (Int × Int)) (a b : Int) (w : World) (h : PN w B o cs t So ts ss) (hr : R32 (a, b)) (hss : ss.length ≤ 5000) (hm : (a, b) ∈ ss) :
    Calls Try.prog 36 #[.pointer (some ⟨B, o, none⟩), .int .i32 a, .int .i32 b] w fun e w' => e = .returned (.tuple #[.int .i32 (fp ss (a, b)), .bool false]) ∧ w = w' := by
  have hr' := hr
  unfold R32 at hr'
  rcases h.tab with ⟨_, _, rfl, _⟩ | ⟨S, p, rfl, hBS, hp, h64, hhalf, hsz, ok, e0, hS⟩
  · cases hm
  · have hk := (h.key hr).2 hm
    obtain ⟨d, hd, h0, h1, hw⟩ := ok.hit _ hk
    have hx : ts.getD ((hN (pk a b) + d) % ts.length) (0, 0) ∈ Tab.keys2 ts := Tab.mem_keys2.2 ⟨Tab.mem_of_getD2 (Nat.mod_lt _ (by omega)), h1⟩
    rw [h.perm.mem_iff, nb_mem] at hx
    obtain ⟨i, hi, e⟩ := hx
    have e1 : ss[i] = (a, b) := pk_inj32 (h.rng _ (List.getElem_mem hi)) hr (by rw [← e] at h0; exact h0)
    have hf : fp ss (a, b) = (i : Int) := by
      rw [fp_hit (ss := ss) (a := a) (b := b) (k := i) hi ?_ ?_ ?_]
      · intro j hj hj2
        have hjl : j < ss.length := by omega
        rw [List.getElem?_eq_getElem hjl] at hj2
        have : ss[j] = ss[i] := by rw [e1]; simpa using hj2
        have := (List.getElem_inj h.nd).1 this
        omega
      · rw [List.getD_eq_getElem?_getD, List.getElem?_map, List.getElem?_eq_getElem hi, e1]; rfl
      · rw [List.getD_eq_getElem?_getD, List.getElem?_map, List.getElem?_eq_getElem hi, e1]; rfl
    have hp18 := pow_le_18 (p := p) (by omega)
    exact num_hit B o S p d ts.length ts a b (fp ss (a, b)) w ⟨hr'.1, hr'.2.1⟩ hr'.2.2 hp (by omega) (by omega) rfl (h.b.cell e0) hS hd h0 (by rw [← e, hf]) (by omega) hw

theorem nb_keys {ts : List Tab.NP} {ss : List (Int × Int)} {a b : Int} (hp : (Tab.keys2 ts).Perm (nb ss)) {x : List Tab.NP} (hx : (Tab.keys2 x).Perm ((pk a b, (ss.length : Int) + 1) :: Tab.keys2 ts)) : (Tab.keys2 x).Perm (nb (ss ++ [(a, b)])) := by
  rw [nb_snoc]
  exact hx.trans ((List.Perm.cons _ hp).trans (List.perm_append_singleton _ _).symm)

theorem num_fresh (B o : Nat) (cs : List Value) (t : TypeId) (So : Option Nat) (ts : List Tab.NP) (ss : List (Int × Int)) (a b : Int) (w : World) (h : PN w B o cs t So ts ss) (hr : R32 (a, b)) (hss : ss.length ≤ 5000) (hm : (a, b) ∉ ss) :
    Calls Try.prog 36 #[.pointer (some ⟨B, o, none⟩), .int .i32 a, .int .i32 b] w fun e w' => e = .returned (.tuple #[.int .i32 ss.length, .bool true]) ∧
      ∃ vs So' ts', PN w' B o ((cs.set o vs).set (o + 1) (.int .i32 (ss.length + 1))) t So' ts' (ss ++ [(a, b)]) ∧ Upto (fun k => k = B ∨ So = some k) w w' ∧ (So' = So ∨ ∃ S, So' = some S ∧ w.heap.size ≤ S) := by
  have hr' := hr
  unfold R32 at hr'
  have ol1 : o + 1 < cs.length := (List.getElem?_eq_some_iff.1 h.n).1
  have rng' : ∀ q ∈ ss ++ [(a, b)], R32 q := by
    intro q hq
    rcases List.mem_append.1 hq with hq | hq
    · exact h.rng q hq
    · rw [List.mem_singleton.1 hq]; exact hr
  have nd' : (ss ++ [(a, b)]).Nodup := by
    rw [List.nodup_append]
    exact ⟨h.nd, by simp, fun x hx y hy e => hm (by rw [List.mem_singleton.1 hy] at e; rw [← e]; exact hx)⟩
  have len' : (ss ++ [(a, b)]).length = ss.length + 1 := by simp
  have n1 : ∀ vs, ((cs.set o vs).set (o + 1) (.int .i32 ((ss.length : Int) + 1)))[o + 1]? = some (.int .i32 ((ss ++ [(a, b)]).length : Nat)) := by
    intro vs
    rw [List.getElem?_set_self (by rw [List.length_set]; exact ol1), len']; rfl
  have n0 : ∀ vs, ((cs.set o vs).set (o + 1) (.int .i32 ((ss.length : Int) + 1)))[o]? = some vs := by
    intro vs
    rw [List.getElem?_set_ne (by omega), List.getElem?_set_self (by omega)]
  rcases h.tab with ⟨rfl, rfl, rfl, e0⟩ | ⟨S, p, rfl, hBS, hp, h64, hhalf, hsz, ok, e0, hS⟩
  · refine (num_new B o cs t a b w ⟨hr'.1, hr'.2.1⟩ hr'.2.2 h.b e0 h.n).mono ?_
    rintro e w' ⟨rfl, hu, hB', hS'⟩
    have hmod : hN (pk a b) % 64 < 64 := Nat.mod_lt _ (by omega)
    have hz : ((List.replicate 64 ((0, 0) : Tab.NP)).getD ((hN (pk a b) + 0) % 64) (0, 0)).2 = 0 := by
      rw [List.getD_eq_getElem?_getD, List.getElem?_replicate]
      split <;> rfl
    have ok := (Tab.Ok2.empty hN 64 (by omega)).put (pk a b, 1) (by simp) (by rw [Tab.keys2_replicate]; simp) 0 (by simp) (by simpa using hz) (fun e he => absurd he (by omega)) (by rw [Tab.keys2_replicate]; simp)
    have hpm := Tab.keys2_set (ts := List.replicate 64 (0, 0)) (s := (hN (pk a b) + 0) % 64) (x := (pk a b, 1)) (by simpa using hmod) hz (by simp)
    rw [Tab.keys2_replicate] at hpm
    simp only [List.length_replicate, Nat.add_zero] at ok hpm
    have hlen : ((List.replicate 64 ((0, 0) : Tab.NP)).set (hN (pk a b) % 64) (pk a b, 1)).length = 64 := by simp
    refine ⟨rfl, .slice (some ⟨w.heap.size, 0, none⟩) 64 64, some w.heap.size, _, ⟨hB', n1 _, Or.inr ⟨w.heap.size, 6, rfl, ?_, ?_, ?_, ?_, ?_, ok, ?_, hS'⟩, ?_, rng', nd'⟩, hu.mono (fun k _ e => Or.inl e), Or.inr ⟨_, rfl, Nat.le_refl _⟩⟩
    · have := h.b.lt; omega
    · exact hlen.symm
    · rw [hlen]; omega
    · rw [hlen, len']; simp
    · left; rw [hlen]; omega
    · rw [n0, hlen]
    · exact nb_keys (ss := []) h.perm (by simpa [Tab.keys2] using hpm)
  · have hp18 := pow_le_18 (p := p) (by omega)
    have hnk : pk a b ∉ (Tab.keys2 ts).map Prod.fst := fun hk => hm ((h.key hr).1 hk)
    have hkn : (Tab.keys2 ts).length = ss.length := by rw [h.perm.length_eq, nb_len]
    obtain ⟨d, hd, h0, hw⟩ := ok.miss _ hnk
    have hsl : (hN (pk a b) + d) % ts.length < ts.length := Nat.mod_lt _ (by omega)
    have hpm := Tab.keys2_set (x := (pk a b, (ss.length : Int) + 1)) hsl h0 (by simp; omega)
    have huS : ∀ {w' : World}, Upto (fun k => k = B ∨ k = S) w w' → Upto (fun k => k = B ∨ some S = some k) w w' := fun hu => hu.mono (fun k _ e => by rcases e with e | e; exact Or.inl e; exact Or.inr (by rw [e]))
    by_cases hroom : 2 * (ss.length + 1) ≤ ts.length
    · refine (num_put B o S p d ts.length ss.length cs t ts a b w ⟨hr'.1, hr'.2.1⟩ hr'.2.2 hp (by omega) (by omega) rfl h.b e0 h.n hS hBS hd h0 (by omega) hroom hw).mono ?_
      rintro e w' ⟨rfl, hu, hB', hS'⟩
      have ok' := ok.put (pk a b, (ss.length : Int) + 1) (by simp; omega) hnk d hd h0 (fun e he => (hw e he).1) (by omega)
      have eset : cs.set o (.slice (some ⟨S, 0, none⟩) ts.length ts.length) = cs := by
        obtain ⟨hlt, e⟩ := List.getElem?_eq_some_iff.1 e0
        rw [← e]; exact List.set_getElem_self hlt
      refine ⟨rfl, .slice (some ⟨S, 0, none⟩) ts.length ts.length, some S, _, ⟨by rw [eset]; exact hB', n1 _, Or.inr ⟨S, p, rfl, hBS, ?_, ?_, ?_, ?_, ok', ?_, hS'⟩, nb_keys h.perm hpm, rng', nd'⟩, huS hu, Or.inl rfl⟩
      · rw [List.length_set]; exact hp
      · rw [List.length_set]; exact h64
      · rw [List.length_set, len']; exact hroom
      · rw [List.length_set, len']; omega
      · rw [n0, List.length_set]
    · refine (num_grow B o S p d ts.length ss.length cs t ts a b w ⟨hr'.1, hr'.2.1⟩ hr'.2.2 hp (by omega) (by omega) rfl h.b e0 h.n hS hBS hd h0 (by omega) (by omega) hhalf h64 hw hkn ok.nodup hnk h.bd).mono ?_
      rintro e w' ⟨rfl, S2, nts, hS2, hu, hB', hS', hL, ok', hpn⟩
      rw [List.set_comm _ _ (by omega)] at hB'
      refine ⟨rfl, .slice (some ⟨S2, 0, none⟩) (2 * ts.length) (2 * ts.length), some S2, nts, ⟨hB', n1 _, Or.inr ⟨S2, p + 1, rfl, ?_, ?_, ?_, ?_, ?_, ok', ?_, hS'⟩, nb_keys h.perm (hpn.trans hpm), rng', nd'⟩, huS hu, Or.inr ⟨_, rfl, hS2⟩⟩
      · have := h.b.lt; omega
      · rw [Nat.pow_succ, hp, hL]; omega
      · rw [hL]; omega
      · rw [hL, len']; omega
      · right; rw [hL, len']; omega
      · rw [n0, hL]

end Go.Proofs.Qxb6600921a
