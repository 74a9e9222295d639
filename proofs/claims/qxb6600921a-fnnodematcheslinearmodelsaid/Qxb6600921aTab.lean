/-
  THE PLAIN LAW OF TABLES OF OPEN ADDRESSING (linear probing), with no Go in sight: slots 0 .. m-1, what each holds ('T i': none where free), a hash.
-/
namespace Go.Proofs.Qxb6600921a.Tab

theorem first_of (p : Nat → Prop) : ∀ n, p n → ∃ d, d ≤ n ∧ p d ∧ ∀ e, e < d → ¬ p e := by
  intro n
  induction n using Nat.strongRecOn with
  | ind n ih =>
    intro hn
    by_cases h : ∃ e, e < n ∧ p e
    · obtain ⟨e, he, hp⟩ := h
      obtain ⟨d, hd, hpd, hm⟩ := ih e he hp
      exact ⟨d, by omega, hpd, hm⟩
    · exact ⟨n, Nat.le_refl _, hn, fun e he hp => h ⟨e, he, hp⟩⟩

variable {K : Type}

/-- Every key can be found by walking on from its own slot: no slot ahead of it on that way is free. -/
def Reach (m : Nat) (h : K → Nat) (T : Nat → Option K) : Prop :=
  ∀ i k, i < m → T i = some k → ∃ d, d < m ∧ i = (h k + d) % m ∧ ∀ e, e < d → T ((h k + e) % m) ≠ none

/-- From whatever start every slot is met. -/
theorem met (m s f : Nat) (hf : f < m) : ∃ d, d < m ∧ (s + d) % m = f := by
  have hm : 0 < m := by omega
  refine ⟨(f + (m - s % m)) % m, Nat.mod_lt _ hm, ?_⟩
  have h1 : s % m < m := Nat.mod_lt _ hm
  rw [Nat.add_mod_mod]
  have e : s + (f + (m - s % m)) = f + m * (s / m + 1) := by
    have := Nat.div_add_mod s m
    rw [Nat.mul_add]
    omega
  rw [e, Nat.add_mul_mod_self_left, Nat.mod_eq_of_lt hf]

/-- The way from a key's slot: it comes to a free slot or to the key, and ahead of that it meets other keys alone. -/
theorem stops {m : Nat} {T : Nat → Option K} (s : Nat) (k : K) (hfree : ∃ f, f < m ∧ T f = none) :
    ∃ d, d < m ∧ (T ((s + d) % m) = none ∨ T ((s + d) % m) = some k) ∧ ∀ e, e < d → T ((s + e) % m) ≠ none ∧ T ((s + e) % m) ≠ some k := by
  obtain ⟨f, hf, hT⟩ := hfree
  obtain ⟨d0, hd0, e0⟩ := met m s f hf
  obtain ⟨d, hd, hp, hmin⟩ := first_of (fun d => T ((s + d) % m) = none ∨ T ((s + d) % m) = some k) d0 (by left; rw [e0]; exact hT)
  exact ⟨d, by omega, hp, fun e he => ⟨fun h => hmin e he (Or.inl h), fun h => hmin e he (Or.inr h)⟩⟩

/-- A way that ends at a free slot without having met the key: the key is not there. -/
theorem absent {m : Nat} {h : K → Nat} {T : Nat → Option K} (hr : Reach m h T) (k : K) (d : Nat) (hn : T ((h k + d) % m) = none)
    (hb : ∀ e, e < d → T ((h k + e) % m) ≠ none ∧ T ((h k + e) % m) ≠ some k) : ∀ i, i < m → T i ≠ some k := by
  intro i hi hT
  obtain ⟨d', _, hid, hway⟩ := hr i k hi hT
  subst hid
  rcases Nat.lt_trichotomy d' d with hlt | heq | hgt
  · exact (hb d' hlt).2 hT
  · subst heq; rw [hn] at hT; cases hT
  · exact hway d hgt hn

/-- A new key at the free slot where its way ends. -/
theorem reach_put {m : Nat} {h : K → Nat} {T T' : Nat → Option K} (hr : Reach m h T) (k : K) (d : Nat) (hd : d < m)
    (hb : ∀ e, e < d → T ((h k + e) % m) ≠ none) (h1 : T' ((h k + d) % m) = some k) (h2 : ∀ i, i < m → i ≠ (h k + d) % m → T' i = T i) : Reach m h T' := by
  have hm : 0 < m := by omega
  have keep : ∀ j, j < m → T j ≠ none → T' j ≠ none := by
    intro j hj hne
    by_cases e : j = (h k + d) % m
    · rw [e, h1]; simp
    · rw [h2 j hj e]; exact hne
  intro i k' hi hT
  by_cases e : i = (h k + d) % m
  · rw [e, h1] at hT
    cases hT
    exact ⟨d, hd, e, fun e' he' => keep _ (Nat.mod_lt _ hm) (hb e' he')⟩
  · rw [h2 i hi e] at hT
    obtain ⟨d', hd', hid, hway⟩ := hr i k' hi hT
    exact ⟨d', hd', hid, fun e' he' => keep _ (Nat.mod_lt _ hm) (hway e' he')⟩

/-! ### lists -/
section
variable {V : Type}
theorem filter_set_perm (f : V → Bool) : ∀ (l : List V) (s : Nat) (v : V), (hs : s < l.length) → f l[s] = false → f v = true → ((l.set s v).filter f).Perm (v :: l.filter f) := by
  intro l
  induction l with
  | nil => intro s v hs; simp at hs
  | cons a l ih =>
    intro s v hs h0 hv
    cases s with
    | zero =>
      simp at h0
      simp [h0, hv]
    | succ s =>
      simp at h0
      have := ih s v (by simpa using hs) h0 hv
      rw [List.set_cons_succ, List.filter_cons, List.filter_cons]
      by_cases ha : f a = true
      · rw [if_pos ha, if_pos ha]
        exact (List.Perm.cons a this).trans (List.Perm.swap v a _)
      · rw [if_neg ha, if_neg ha]; exact this

theorem free_of_count (f : V → Bool) : ∀ l : List V, (l.filter f).length < l.length → ∃ i, ∃ h : i < l.length, f l[i] = false := by
  intro l
  induction l with
  | nil => intro h; simp at h
  | cons a l ih =>
    intro h
    by_cases ha : f a = true
    · rw [List.filter_cons, if_pos ha] at h
      obtain ⟨i, hi, hf⟩ := ih (by simpa using h)
      exact ⟨i + 1, by simpa using hi, by simpa using hf⟩
    · exact ⟨0, by simp, by simpa using ha⟩

theorem length_le_of_nodup [DecidableEq V] : ∀ (l l' : List V), l.Nodup → (∀ x, x ∈ l → x ∈ l') → l.length ≤ l'.length := by
  intro l
  induction l with
  | nil => intro l' _ _; simp
  | cons a l ih =>
    intro l' hn hs
    have ha : a ∈ l' := hs a (by simp)
    have hn' := List.nodup_cons.1 hn
    have := ih (l'.erase a) hn'.2 (fun x hx => (List.mem_erase_of_ne (fun e : x = a => hn'.1 (by rw [← e]; exact hx))).2 (hs x (by simp [hx])))
    rw [List.length_erase_of_mem ha] at this
    have : 0 < l'.length := List.length_pos_of_mem ha
    simp; omega
end

/-! ### a table of keys that are numbers, 0 where a slot is free -/
def T0 (sl : List Int) (i : Nat) : Option Int := if sl.getD i 0 = 0 then none else some (sl.getD i 0)
def keys (sl : List Int) : List Int := sl.filter (fun x => x != 0)

theorem mem_keys {sl : List Int} {x : Int} : x ∈ keys sl ↔ x ∈ sl ∧ x ≠ 0 := by simp [keys]
theorem T0_none {sl : List Int} {i : Nat} : T0 sl i = none ↔ sl.getD i 0 = 0 := by unfold T0; split <;> simp_all
theorem T0_some {sl : List Int} {i : Nat} {k : Int} : T0 sl i = some k ↔ sl.getD i 0 = k ∧ k ≠ 0 := by
  unfold T0
  split
  · constructor
    · intro h; cases h
    · intro h; exfalso; apply h.2; rw [← h.1]; assumption
  · constructor
    · intro h; cases h; exact ⟨rfl, by assumption⟩
    · intro h; rw [h.1]
theorem mem_of_getD {sl : List Int} {i : Nat} (h : i < sl.length) : sl.getD i 0 ∈ sl := by
  rw [List.getD_eq_getElem?_getD, List.getElem?_eq_getElem h]; simp
theorem getD_of_mem {sl : List Int} {x : Int} (h : x ∈ sl) : ∃ i, i < sl.length ∧ sl.getD i 0 = x := by
  obtain ⟨i, hi, e⟩ := List.mem_iff_getElem.1 h
  exact ⟨i, hi, by rw [List.getD_eq_getElem?_getD, List.getElem?_eq_getElem hi]; simpa using e⟩
theorem getD_set_self {sl : List Int} {i : Nat} (h : i < sl.length) (v : Int) : (sl.set i v).getD i 0 = v := by
  rw [List.getD_eq_getElem?_getD, List.getElem?_set_self h]; rfl
theorem getD_set_ne {sl : List Int} {i j : Nat} (h : j ≠ i) (v : Int) : (sl.set i v).getD j 0 = sl.getD j 0 := by
  rw [List.getD_eq_getElem?_getD, List.getElem?_set_ne (by omega), ← List.getD_eq_getElem?_getD]

/-- What holds of the table between two calls: its keys can be found, none stands twice, and half of it is free. -/
structure Ok (h : Int → Nat) (sl : List Int) : Prop where
  reach : Reach sl.length h (T0 sl)
  nodup : (keys sl).Nodup
  room : (keys sl).length < sl.length

theorem Ok.free {h : Int → Nat} {sl : List Int} (o : Ok h sl) : ∃ f, f < sl.length ∧ T0 sl f = none := by
  obtain ⟨i, hi, hf⟩ := free_of_count _ sl o.room
  refine ⟨i, hi, T0_none.2 ?_⟩
  rw [List.getD_eq_getElem?_getD, List.getElem?_eq_getElem hi]
  simpa using hf

/-- The way of a key that is there. -/
theorem Ok.hit {h : Int → Nat} {sl : List Int} (o : Ok h sl) (k : Int) (hk : k ∈ keys sl) :
    ∃ d, d < sl.length ∧ sl.getD ((h k + d) % sl.length) 0 = k ∧ ∀ e, e < d → sl.getD ((h k + e) % sl.length) 0 ≠ 0 ∧ sl.getD ((h k + e) % sl.length) 0 ≠ k := by
  obtain ⟨d, hd, hp, hw⟩ := stops (h k) k o.free
  have hk' := mem_keys.1 hk
  have hm : 0 < sl.length := by omega
  refine ⟨d, hd, ?_, fun e he => ⟨fun hz => (hw e he).1 (T0_none.2 hz), fun hz => (hw e he).2 (T0_some.2 ⟨hz, hk'.2⟩)⟩⟩
  rcases hp with hp | hp
  · exfalso
    obtain ⟨i, hi, e⟩ := getD_of_mem hk'.1
    exact absent o.reach k d hp hw i hi (T0_some.2 ⟨e, hk'.2⟩)
  · exact (T0_some.1 hp).1

/-- The way of a key that is not there. -/
theorem Ok.miss {h : Int → Nat} {sl : List Int} (o : Ok h sl) (k : Int) (hk : k ∉ keys sl) :
    ∃ d, d < sl.length ∧ sl.getD ((h k + d) % sl.length) 0 = 0 ∧ ∀ e, e < d → sl.getD ((h k + e) % sl.length) 0 ≠ 0 ∧ (k ≠ 0 → sl.getD ((h k + e) % sl.length) 0 ≠ k) := by
  obtain ⟨d, hd, hp, hw⟩ := stops (h k) k o.free
  have hm : 0 < sl.length := by omega
  refine ⟨d, hd, ?_, fun e he => ⟨fun hz => (hw e he).1 (T0_none.2 hz), fun h0 hz => (hw e he).2 (T0_some.2 ⟨hz, h0⟩)⟩⟩
  rcases hp with hp | hp
  · exact T0_none.1 hp
  · exfalso
    have := T0_some.1 hp
    exact hk (mem_keys.2 ⟨this.1 ▸ mem_of_getD (Nat.mod_lt _ hm), this.2⟩)

theorem keys_set {sl : List Int} {s : Nat} {k : Int} (hs : s < sl.length) (h0 : sl.getD s 0 = 0) (hk : k ≠ 0) : (keys (sl.set s k)).Perm (k :: keys sl) := by
  refine filter_set_perm _ sl s k hs ?_ (by simpa using hk)
  rw [List.getD_eq_getElem?_getD, List.getElem?_eq_getElem hs] at h0
  simpa using h0

/-- A new key at the free slot where its way ends, room being left behind it. -/
theorem Ok.put {h : Int → Nat} {sl : List Int} (o : Ok h sl) (k : Int) (hk0 : k ≠ 0) (hk : k ∉ keys sl) (d : Nat) (hd : d < sl.length) (h0 : sl.getD ((h k + d) % sl.length) 0 = 0)
    (hw : ∀ e, e < d → sl.getD ((h k + e) % sl.length) 0 ≠ 0) (hroom : (keys sl).length + 1 < sl.length) : Ok h (sl.set ((h k + d) % sl.length) k) := by
  have hm : 0 < sl.length := by omega
  have hs : (h k + d) % sl.length < sl.length := Nat.mod_lt _ hm
  have hp := keys_set hs h0 hk0
  refine ⟨?_, ?_, ?_⟩
  · rw [List.length_set]
    refine reach_put o.reach k d hd (fun e he hz => hw e he (T0_none.1 hz)) (T0_some.2 ⟨getD_set_self hs k, hk0⟩) ?_
    intro i hi hne
    unfold T0
    rw [getD_set_ne hne]
  · rw [hp.nodup_iff]
    exact List.nodup_cons.2 ⟨hk, o.nodup⟩
  · rw [hp.length_eq, List.length_set]
    simpa using hroom

theorem keys_replicate (m : Nat) : keys (List.replicate m 0) = [] := by
  simp [keys]

theorem Ok.empty (h : Int → Nat) (m : Nat) (hm : 0 < m) : Ok h (List.replicate m 0) := by
  refine ⟨?_, by rw [keys_replicate]; exact List.nodup_nil, by rw [keys_replicate]; simpa using hm⟩
  intro i k hi hT
  have := (T0_some.1 hT)
  exfalso
  apply this.2
  rw [← this.1]
  simp at hi
  rw [List.getD_eq_getElem?_getD, List.getElem?_replicate, if_pos hi]
  rfl

end Go.Proofs.Qxb6600921a.Tab
