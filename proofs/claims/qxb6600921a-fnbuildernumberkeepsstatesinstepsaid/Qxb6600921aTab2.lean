/-
  A table whose slots hold a key and a number, the number 0 where a slot is free: the plain law, and how such a row lies in memory.
-/
import Derived.Test.Qxb6600921aTab
import Derived.Test.Qxb6600921aMem
namespace Go.Proofs.Qxb6600921a.Tab

abbrev NP := Int × Int
def T2 (ts : List NP) (i : Nat) : Option Int := if (ts.getD i (0, 0)).2 = 0 then none else some (ts.getD i (0, 0)).1
def keys2 (ts : List NP) : List NP := ts.filter (fun x => x.2 != 0)

theorem mem_keys2 {ts : List NP} {x : NP} : x ∈ keys2 ts ↔ x ∈ ts ∧ x.2 ≠ 0 := by simp [keys2]
theorem T2_none {ts : List NP} {i : Nat} : T2 ts i = none ↔ (ts.getD i (0, 0)).2 = 0 := by unfold T2; split <;> simp_all
theorem T2_some {ts : List NP} {i : Nat} {k : Int} : T2 ts i = some k ↔ (ts.getD i (0, 0)).1 = k ∧ (ts.getD i (0, 0)).2 ≠ 0 := by unfold T2; split <;> simp_all
theorem mem_of_getD2 {ts : List NP} {i : Nat} (h : i < ts.length) : ts.getD i (0, 0) ∈ ts := by
  rw [List.getD_eq_getElem?_getD, List.getElem?_eq_getElem h]; simp
theorem getD_of_mem2 {ts : List NP} {x : NP} (h : x ∈ ts) : ∃ i, i < ts.length ∧ ts.getD i (0, 0) = x := by
  obtain ⟨i, hi, e⟩ := List.mem_iff_getElem.1 h
  exact ⟨i, hi, by rw [List.getD_eq_getElem?_getD, List.getElem?_eq_getElem hi]; simpa using e⟩
theorem getD_set_self2 {ts : List NP} {i : Nat} (h : i < ts.length) (v : NP) : (ts.set i v).getD i (0, 0) = v := by
  rw [List.getD_eq_getElem?_getD, List.getElem?_set_self h]; rfl
theorem getD_set_ne2 {ts : List NP} {i j : Nat} (h : j ≠ i) (v : NP) : (ts.set i v).getD j (0, 0) = ts.getD j (0, 0) := by
  rw [List.getD_eq_getElem?_getD, List.getElem?_set_ne (by omega), ← List.getD_eq_getElem?_getD]

structure Ok2 (h : Int → Nat) (ts : List NP) : Prop where
  reach : Reach ts.length h (T2 ts)
  nodup : ((keys2 ts).map Prod.fst).Nodup
  room : (keys2 ts).length < ts.length

theorem Ok2.free {h : Int → Nat} {ts : List NP} (o : Ok2 h ts) : ∃ f, f < ts.length ∧ T2 ts f = none := by
  obtain ⟨i, hi, hf⟩ := free_of_count _ ts o.room
  refine ⟨i, hi, T2_none.2 ?_⟩
  rw [List.getD_eq_getElem?_getD, List.getElem?_eq_getElem hi]
  simpa using hf

theorem Ok2.hit {h : Int → Nat} {ts : List NP} (o : Ok2 h ts) (k : Int) (hk : k ∈ (keys2 ts).map Prod.fst) :
    ∃ d, d < ts.length ∧ (ts.getD ((h k + d) % ts.length) (0, 0)).1 = k ∧ (ts.getD ((h k + d) % ts.length) (0, 0)).2 ≠ 0 ∧
      ∀ e, e < d → (ts.getD ((h k + e) % ts.length) (0, 0)).2 ≠ 0 ∧ (ts.getD ((h k + e) % ts.length) (0, 0)).1 ≠ k := by
  obtain ⟨d, hd, hp, hw⟩ := stops (h k) k o.free
  obtain ⟨x, hx, rfl⟩ := List.mem_map.1 hk
  have hx' := mem_keys2.1 hx
  have hb : ∀ e, e < d → (ts.getD ((h x.1 + e) % ts.length) (0, 0)).2 ≠ 0 ∧ (ts.getD ((h x.1 + e) % ts.length) (0, 0)).1 ≠ x.1 := fun e he =>
    ⟨fun hz => (hw e he).1 (T2_none.2 hz), fun hz => (hw e he).2 (T2_some.2 ⟨hz, fun h0 => (hw e he).1 (T2_none.2 h0)⟩)⟩
  rcases hp with hp | hp
  · exfalso
    obtain ⟨i, hi, e⟩ := getD_of_mem2 hx'.1
    exact absent o.reach x.1 d hp hw i hi (T2_some.2 (by rw [e]; exact ⟨rfl, hx'.2⟩))
  · have := T2_some.1 hp
    exact ⟨d, hd, this.1, this.2, hb⟩

theorem Ok2.miss {h : Int → Nat} {ts : List NP} (o : Ok2 h ts) (k : Int) (hk : k ∉ (keys2 ts).map Prod.fst) :
    ∃ d, d < ts.length ∧ (ts.getD ((h k + d) % ts.length) (0, 0)).2 = 0 ∧
      ∀ e, e < d → (ts.getD ((h k + e) % ts.length) (0, 0)).2 ≠ 0 ∧ (ts.getD ((h k + e) % ts.length) (0, 0)).1 ≠ k := by
  obtain ⟨d, hd, hp, hw⟩ := stops (h k) k o.free
  have hm : 0 < ts.length := by omega
  have hb : ∀ e, e < d → (ts.getD ((h k + e) % ts.length) (0, 0)).2 ≠ 0 ∧ (ts.getD ((h k + e) % ts.length) (0, 0)).1 ≠ k := fun e he =>
    ⟨fun hz => (hw e he).1 (T2_none.2 hz), fun hz => (hw e he).2 (T2_some.2 ⟨hz, fun h0 => (hw e he).1 (T2_none.2 h0)⟩)⟩
  rcases hp with hp | hp
  · exact ⟨d, hd, T2_none.1 hp, hb⟩
  · exfalso
    have := T2_some.1 hp
    exact hk (List.mem_map.2 ⟨_, mem_keys2.2 ⟨mem_of_getD2 (Nat.mod_lt _ hm), this.2⟩, this.1⟩)

theorem keys2_set {ts : List NP} {s : Nat} {x : NP} (hs : s < ts.length) (h0 : (ts.getD s (0, 0)).2 = 0) (hk : x.2 ≠ 0) : (keys2 (ts.set s x)).Perm (x :: keys2 ts) := by
  refine filter_set_perm _ ts s x hs ?_ (by simpa using hk)
  rw [List.getD_eq_getElem?_getD, List.getElem?_eq_getElem hs] at h0
  simpa using h0

theorem Ok2.put {h : Int → Nat} {ts : List NP} (o : Ok2 h ts) (x : NP) (hk0 : x.2 ≠ 0) (hk : x.1 ∉ (keys2 ts).map Prod.fst) (d : Nat) (hd : d < ts.length) (h0 : (ts.getD ((h x.1 + d) % ts.length) (0, 0)).2 = 0)
    (hw : ∀ e, e < d → (ts.getD ((h x.1 + e) % ts.length) (0, 0)).2 ≠ 0) (hroom : (keys2 ts).length + 1 < ts.length) : Ok2 h (ts.set ((h x.1 + d) % ts.length) x) := by
  have hm : 0 < ts.length := by omega
  have hs : (h x.1 + d) % ts.length < ts.length := Nat.mod_lt _ hm
  have hp := keys2_set hs h0 hk0
  refine ⟨?_, ?_, ?_⟩
  · rw [List.length_set]
    refine reach_put o.reach x.1 d hd (fun e he hz => hw e he (T2_none.1 hz)) (T2_some.2 (by rw [getD_set_self2 hs x]; exact ⟨rfl, hk0⟩)) ?_
    intro i hi hne
    unfold T2
    rw [getD_set_ne2 hne]
  · rw [(hp.map Prod.fst).nodup_iff]
    exact List.nodup_cons.2 ⟨hk, o.nodup⟩
  · rw [hp.length_eq, List.length_set]
    simpa using hroom

theorem keys2_replicate (m : Nat) : keys2 (List.replicate m (0, 0)) = [] := by simp [keys2]

theorem Ok2.empty (h : Int → Nat) (m : Nat) (hm : 0 < m) : Ok2 h (List.replicate m (0, 0)) := by
  refine ⟨?_, by rw [keys2_replicate]; exact List.nodup_nil, by rw [keys2_replicate]; simpa using hm⟩
  intro i k hi hT
  have := (T2_some.1 hT)
  exfalso
  apply this.2
  simp at hi
  rw [List.getD_eq_getElem?_getD, List.getElem?_replicate, if_pos hi]
  rfl

/-! ### in memory: two cells a slot -/
def pcells (ts : List NP) : List Value := ts.flatMap fun p => [.int .u64 p.1, .int .i32 p.2]
theorem pcells_len (ts : List NP) : (pcells ts).length = ts.length * 2 := by
  induction ts with
  | nil => rfl
  | cons a l ih => simp [pcells] at ih ⊢; omega
theorem pcells_at0 : ∀ (ts : List NP) (i : Nat), i < ts.length → (pcells ts)[i * 2]? = some (.int .u64 (ts.getD i (0, 0)).1) := by
  intro ts
  induction ts with
  | nil => intro i h; simp at h
  | cons a l ih =>
    intro i h
    cases i with
    | zero => simp [pcells]
    | succ i =>
      have := ih i (by simpa using h)
      rw [show (i + 1) * 2 = i * 2 + 1 + 1 from by omega]
      simpa [pcells] using this
theorem pcells_at1 : ∀ (ts : List NP) (i : Nat), i < ts.length → (pcells ts)[i * 2 + 1]? = some (.int .i32 (ts.getD i (0, 0)).2) := by
  intro ts
  induction ts with
  | nil => intro i h; simp at h
  | cons a l ih =>
    intro i h
    cases i with
    | zero => simp [pcells]
    | succ i =>
      have := ih i (by simpa using h)
      rw [show (i + 1) * 2 + 1 = i * 2 + 1 + 1 + 1 from by omega]
      simpa [pcells] using this
theorem pcells_set : ∀ (ts : List NP) (i : Nat) (x : NP), i < ts.length → ((pcells ts).set (i * 2) (.int .u64 x.1)).set (i * 2 + 1) (.int .i32 x.2) = pcells (ts.set i x) := by
  intro ts
  induction ts with
  | nil => intro i x h; simp at h
  | cons a l ih =>
    intro i x h
    cases i with
    | zero => simp [pcells]
    | succ i =>
      have := ih i x (by simpa using h)
      rw [show (i + 1) * 2 = i * 2 + 1 + 1 from by omega]
      simpa [pcells] using this
theorem pcells_replicate (m : Nat) : pcells (List.replicate m (0, 0)) = (madeCells #[.int .u64 0, .int .i32 0] (m * 2)).toList := by
  apply List.ext_getElem?
  intro i
  by_cases hi : i < m * 2
  · have e1 : (madeCells #[.int .u64 0, .int .i32 0] (m * 2)).toList[i]? = some (#[Value.int .u64 0, .int .i32 0][i % 2]!) := by
      rw [Array.getElem?_toList, madeCells, Array.getElem?_map, Array.getElem?_range]
      simp [hi]
    rw [e1]
    have hz : ∀ j, j < m → (List.replicate m ((0, 0) : NP)).getD j (0, 0) = (0, 0) := by
      intro j hj
      rw [List.getD_eq_getElem?_getD, List.getElem?_replicate, if_pos hj]; rfl
    rcases Nat.mod_two_eq_zero_or_one i with h | h
    · have e : i = (i / 2) * 2 := by omega
      rw [h, e, pcells_at0 _ _ (by simp; omega), hz _ (by omega)]; rfl
    · have e : i = (i / 2) * 2 + 1 := by omega
      rw [h, e, pcells_at1 _ _ (by simp; omega), hz _ (by omega)]; rfl
  · rw [List.getElem?_eq_none (by rw [pcells_len]; simp; omega), List.getElem?_eq_none (by rw [Array.length_toList, size_madeCells]; omega)]

/-! ### the pairs seen, numbered from 1 -/
end Go.Proofs.Qxb6600921a.Tab
