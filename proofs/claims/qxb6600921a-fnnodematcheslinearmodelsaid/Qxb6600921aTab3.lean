/-
  A table of numbers of nodes, each node known by its three numbers: the plain law, and how a row of triples lies in memory.
-/
import Derived.Test.Qxb6600921aTab
import Derived.Test.Qxb6600921aMem
namespace Go.Proofs.Qxb6600921a.Tab

abbrev K3 := Int × Int × Int
def nat3 (ns : List K3) (i : Nat) : K3 := ns.getD i (0, 0, 0)
def T3 (ns : List K3) (us : List Int) (i : Nat) : Option K3 := if us.getD i 0 = 0 then none else some (nat3 ns (us.getD i 0).toNat)
def idsTo (n : Nat) : List Int := (List.range (n - 2)).map (fun i => ((i + 2 : Nat) : Int))

theorem idsTo_succ {n : Nat} (h : 2 ≤ n) : idsTo (n + 1) = idsTo n ++ [(n : Int)] := by
  unfold idsTo
  rw [show n + 1 - 2 = (n - 2) + 1 from by omega, List.range_succ, List.map_append, List.map_singleton, show n - 2 + 2 = n from by omega]
theorem mem_idsTo {n : Nat} {x : Int} : x ∈ idsTo n ↔ ∃ i : Nat, 2 ≤ i ∧ i < n ∧ x = (i : Int) := by
  unfold idsTo
  rw [List.mem_map]
  constructor
  · rintro ⟨i, hi, rfl⟩
    rw [List.mem_range] at hi
    exact ⟨i + 2, by omega, by omega, rfl⟩
  · rintro ⟨i, h2, hn, rfl⟩
    exact ⟨i - 2, by rw [List.mem_range]; omega, by congr 1; omega⟩
theorem idsTo_len (n : Nat) : (idsTo n).length = n - 2 := by unfold idsTo; simp

theorem T3_none {ns : List K3} {us : List Int} {i : Nat} : T3 ns us i = none ↔ us.getD i 0 = 0 := by unfold T3; split <;> simp_all
theorem T3_some {ns : List K3} {us : List Int} {i : Nat} {k : K3} : T3 ns us i = some k ↔ nat3 ns (us.getD i 0).toNat = k ∧ us.getD i 0 ≠ 0 := by unfold T3; split <;> simp_all

/-- The numbers 2 .. n-1 stand in the table, each once, and each can be found by its node. -/
structure Ok3 (h : K3 → Nat) (ns : List K3) (us : List Int) (n : Nat) : Prop where
  reach : Reach us.length h (T3 ns us)
  perm : (keys us).Perm (idsTo n)
  room : n ≤ us.length
  two : 2 ≤ n
  inj : ∀ i j, 2 ≤ i → i < ns.length → 2 ≤ j → j < ns.length → nat3 ns i = nat3 ns j → i = j
  le : n ≤ ns.length

theorem Ok3.id {h : K3 → Nat} {ns : List K3} {us : List Int} {n : Nat} (o : Ok3 h ns us n) {i : Nat} (hi : i < us.length) (h0 : us.getD i 0 ≠ 0) : ∃ j : Nat, 2 ≤ j ∧ j < n ∧ us.getD i 0 = (j : Int) := by
  have : us.getD i 0 ∈ keys us := mem_keys.2 ⟨mem_of_getD hi, h0⟩
  rw [o.perm.mem_iff, mem_idsTo] at this
  exact this
theorem Ok3.free {h : K3 → Nat} {ns : List K3} {us : List Int} {n : Nat} (o : Ok3 h ns us n) : ∃ f, f < us.length ∧ T3 ns us f = none := by
  have hl := o.perm.length_eq
  rw [idsTo_len] at hl
  have h2 := o.two
  have h3 := o.room
  obtain ⟨i, hi, hf⟩ := free_of_count (fun x : Int => x != 0) us (by show (keys us).length < _; omega)
  refine ⟨i, hi, T3_none.2 ?_⟩
  rw [List.getD_eq_getElem?_getD, List.getElem?_eq_getElem hi]
  simpa using hf

theorem Ok3.hit {h : K3 → Nat} {ns : List K3} {us : List Int} {n : Nat} (o : Ok3 h ns us n) (id : Nat) (h2 : 2 ≤ id) (hn : id < n) :
    ∃ d, d < us.length ∧ us.getD ((h (nat3 ns id) + d) % us.length) 0 = (id : Int) ∧
      ∀ e, e < d → us.getD ((h (nat3 ns id) + e) % us.length) 0 ≠ 0 ∧ nat3 ns (us.getD ((h (nat3 ns id) + e) % us.length) 0).toNat ≠ nat3 ns id := by
  obtain ⟨d, hd, hp, hw⟩ := stops (h (nat3 ns id)) (nat3 ns id) o.free
  have hm : 0 < us.length := by omega
  have hle := o.le
  have hb : ∀ e, e < d → us.getD ((h (nat3 ns id) + e) % us.length) 0 ≠ 0 ∧ nat3 ns (us.getD ((h (nat3 ns id) + e) % us.length) 0).toNat ≠ nat3 ns id := fun e he =>
    ⟨fun hz => (hw e he).1 (T3_none.2 hz), fun hz => (hw e he).2 (T3_some.2 ⟨hz, fun h0 => (hw e he).1 (T3_none.2 h0)⟩)⟩
  have hmem : (id : Int) ∈ keys us := by rw [o.perm.mem_iff, mem_idsTo]; exact ⟨id, h2, hn, rfl⟩
  rcases hp with hp | hp
  · exfalso
    obtain ⟨i, hi, e⟩ := getD_of_mem (mem_keys.1 hmem).1
    exact absent o.reach _ d hp hw i hi (T3_some.2 (by rw [e]; exact ⟨by simp, (mem_keys.1 hmem).2⟩))
  · have := T3_some.1 hp
    obtain ⟨j, hj2, hjn, hj⟩ := o.id (Nat.mod_lt _ hm) this.2
    have e1 := this.1
    rw [hj, Int.toNat_natCast] at e1
    have := o.inj j id hj2 (by omega) h2 (by omega) e1
    exact ⟨d, hd, by rw [hj, this], hb⟩

theorem Ok3.miss {h : K3 → Nat} {ns : List K3} {us : List Int} {n : Nat} (o : Ok3 h ns us n) (k : K3) (hk : ∀ id, 2 ≤ id → id < n → nat3 ns id ≠ k) :
    ∃ d, d < us.length ∧ us.getD ((h k + d) % us.length) 0 = 0 ∧
      ∀ e, e < d → us.getD ((h k + e) % us.length) 0 ≠ 0 ∧ nat3 ns (us.getD ((h k + e) % us.length) 0).toNat ≠ k := by
  obtain ⟨d, hd, hp, hw⟩ := stops (h k) k o.free
  have hm : 0 < us.length := by omega
  have hb : ∀ e, e < d → us.getD ((h k + e) % us.length) 0 ≠ 0 ∧ nat3 ns (us.getD ((h k + e) % us.length) 0).toNat ≠ k := fun e he =>
    ⟨fun hz => (hw e he).1 (T3_none.2 hz), fun hz => (hw e he).2 (T3_some.2 ⟨hz, fun h0 => (hw e he).1 (T3_none.2 h0)⟩)⟩
  rcases hp with hp | hp
  · exact ⟨d, hd, T3_none.1 hp, hb⟩
  · exfalso
    have := T3_some.1 hp
    obtain ⟨j, hj2, hjn, hj⟩ := o.id (Nat.mod_lt _ hm) this.2
    have e1 := this.1
    rw [hj, Int.toNat_natCast] at e1
    exact hk j hj2 hjn e1

/-- The next number goes in. -/
theorem Ok3.put {h : K3 → Nat} {ns : List K3} {us : List Int} {n : Nat} (o : Ok3 h ns us n) (hn : n < ns.length) (d : Nat) (hd : d < us.length) (h0 : us.getD ((h (nat3 ns n) + d) % us.length) 0 = 0)
    (hw : ∀ e, e < d → us.getD ((h (nat3 ns n) + e) % us.length) 0 ≠ 0) (hroom : n + 1 ≤ us.length) : Ok3 h ns (us.set ((h (nat3 ns n) + d) % us.length) n) (n + 1) := by
  have hm : 0 < us.length := by omega
  have h2 := o.two
  have hs : (h (nat3 ns n) + d) % us.length < us.length := Nat.mod_lt _ hm
  have hp := keys_set (k := (n : Int)) hs h0 (by omega)
  refine ⟨?_, ?_, by rw [List.length_set]; exact hroom, by omega, o.inj, by omega⟩
  · rw [List.length_set]
    refine reach_put o.reach (nat3 ns n) d hd (fun e he hz => hw e he (T3_none.1 hz)) (T3_some.2 (by rw [getD_set_self hs]; exact ⟨by simp, by omega⟩)) ?_
    intro i hi hne
    unfold T3
    rw [getD_set_ne hne]
  · rw [idsTo_succ h2]
    exact hp.trans ((List.Perm.cons _ o.perm).trans (List.perm_append_singleton _ _).symm)

theorem nat3_app {ns : List K3} {k : K3} {i : Nat} (h : i < ns.length) : nat3 (ns ++ [k]) i = nat3 ns i := by
  unfold nat3
  rw [List.getD_eq_getElem?_getD, List.getElem?_append_left h, ← List.getD_eq_getElem?_getD]
theorem nat3_last (ns : List K3) (k : K3) : nat3 (ns ++ [k]) ns.length = k := by
  unfold nat3
  rw [List.getD_eq_getElem?_getD, List.getElem?_append_right (Nat.le_refl _)]; simp

/-- One node more behind the others: the table says what it said. -/
theorem Ok3.more {h : K3 → Nat} {ns : List K3} {us : List Int} {n : Nat} (o : Ok3 h ns us n) (k : K3) (hk : ∀ id, 2 ≤ id → id < ns.length → nat3 ns id ≠ k) : Ok3 h (ns ++ [k]) us n := by
  have hle := o.le
  refine ⟨?_, o.perm, o.room, o.two, ?_, by simp; omega⟩
  · have e : ∀ i, i < us.length → T3 (ns ++ [k]) us i = T3 ns us i := by
      intro i hi
      unfold T3
      split
      · rfl
      · next h0 =>
        obtain ⟨j, hj2, hjn, hj⟩ := o.id hi h0
        rw [hj, Int.toNat_natCast, nat3_app (by omega)]
    intro i k' hi hT
    rw [e i hi] at hT
    obtain ⟨d, hd, hid, hway⟩ := o.reach i k' hi hT
    refine ⟨d, hd, hid, fun x hx => ?_⟩
    rw [e _ (Nat.mod_lt _ (by omega))]
    exact hway x hx
  · intro i j hi2 hi hj2 hj e
    rw [List.length_append, List.length_singleton] at hi hj
    by_cases h1 : i < ns.length
    · by_cases h3 : j < ns.length
      · rw [nat3_app h1, nat3_app h3] at e
        exact o.inj i j hi2 h1 hj2 h3 e
      · have : j = ns.length := by omega
        subst this
        rw [nat3_app h1, nat3_last] at e
        exact absurd e (hk i hi2 h1)
    · have : i = ns.length := by omega
      subst this
      by_cases h3 : j < ns.length
      · rw [nat3_app h3, nat3_last] at e
        exact absurd e.symm (hk j hj2 h3)
      · omega

theorem Ok3.empty (h : K3 → Nat) (ns : List K3) (m : Nat) (hm : 2 ≤ m) (inj : ∀ i j, 2 ≤ i → i < ns.length → 2 ≤ j → j < ns.length → nat3 ns i = nat3 ns j → i = j) (le : 2 ≤ ns.length) : Ok3 h ns (List.replicate m 0) 2 := by
  refine ⟨?_, by rw [keys_replicate]; exact List.Perm.refl _, by simpa using hm, by omega, inj, le⟩
  intro i k hi hT
  have := (T3_some.1 hT)
  exfalso
  apply this.2
  simp at hi
  rw [List.getD_eq_getElem?_getD, List.getElem?_replicate, if_pos hi]
  rfl

/-! ### in memory: three cells a node -/
def tcells (ns : List K3) : List Value := ns.flatMap fun p => [.int .i32 p.1, .int .i32 p.2.1, .int .i32 p.2.2]
theorem tcells_len (ns : List K3) : (tcells ns).length = ns.length * 3 := by
  induction ns with
  | nil => rfl
  | cons a l ih => simp [tcells] at ih ⊢; omega
theorem tcells_at0 : ∀ (ns : List K3) (i : Nat), i < ns.length → (tcells ns)[i * 3]? = some (.int .i32 (nat3 ns i).1) := by
  intro ns
  induction ns with
  | nil => intro i h; simp at h
  | cons a l ih =>
    intro i h
    cases i with
    | zero => simp [tcells, nat3]
    | succ i =>
      have := ih i (by simpa using h)
      rw [show (i + 1) * 3 = i * 3 + 1 + 1 + 1 from by omega]
      simpa [tcells, nat3] using this
theorem tcells_at1 : ∀ (ns : List K3) (i : Nat), i < ns.length → (tcells ns)[i * 3 + 1]? = some (.int .i32 (nat3 ns i).2.1) := by
  intro ns
  induction ns with
  | nil => intro i h; simp at h
  | cons a l ih =>
    intro i h
    cases i with
    | zero => simp [tcells, nat3]
    | succ i =>
      have := ih i (by simpa using h)
      rw [show (i + 1) * 3 + 1 = i * 3 + 1 + 1 + 1 + 1 from by omega]
      simpa [tcells, nat3] using this
theorem tcells_at2 : ∀ (ns : List K3) (i : Nat), i < ns.length → (tcells ns)[i * 3 + 2]? = some (.int .i32 (nat3 ns i).2.2) := by
  intro ns
  induction ns with
  | nil => intro i h; simp at h
  | cons a l ih =>
    intro i h
    cases i with
    | zero => simp [tcells, nat3]
    | succ i =>
      have := ih i (by simpa using h)
      rw [show (i + 1) * 3 + 2 = i * 3 + 2 + 1 + 1 + 1 from by omega]
      simpa [tcells, nat3] using this
theorem tcells_snoc (ns : List K3) (k : K3) : tcells (ns ++ [k]) = tcells ns ++ [.int .i32 k.1, .int .i32 k.2.1, .int .i32 k.2.2] := by
  unfold tcells; rw [List.flatMap_append]; simp
theorem tcells_one (ns : List K3) : ∀ u ∈ tcells ns, u.oneCell' = true := by
  intro u hu
  unfold tcells at hu
  obtain ⟨p, _, hp⟩ := List.mem_flatMap.1 hu
  simp at hp
  rcases hp with rfl | rfl | rfl <;> rfl

end Go.Proofs.Qxb6600921a.Tab
