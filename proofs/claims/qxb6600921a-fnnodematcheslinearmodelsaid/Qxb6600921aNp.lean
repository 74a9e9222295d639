/-
  binaryDiagram.node, a new node.
-/
import Derived.Test.Qxb6600921aReg13
import Derived.Deep.DeepCutAuto
namespace Go.Proofs.Qxb6600921a
open Go.RowKit
set_option linter.unusedVariables false

theorem info31 : (Try.prog.info? 31).map (fun i => (i.zero, i.size, i.bytes)) = some (some (.agg #[.int .i32 0, .int .i32 0, .int .i32 0]), 3, 12) := by kernel_rfl

/-- What a new node leaves of the diagram. -/
def NewNode (w w' : World) (base D gN gU gD : Nat) (ns : List Tab.K3) : Prop :=
  ∃ gN' gU' gD' cN' cD' p' : Nat, ∃ us' dp' : List Int, DG w' base D gN' gU' gD' cN' cD' ns us' dp' ∧ Upto (fun k => k = D ∨ k = gN ∨ k = gU ∨ k = gD) w w' ∧
    (D ≠ gN' ∧ D ≠ gU' ∧ D ≠ gD' ∧ gN' ≠ gU' ∧ gN' ≠ gD' ∧ gU' ≠ gD') ∧ (gN' = gN ∨ w.heap.size ≤ gN') ∧ (gU' = gU ∨ w.heap.size ≤ gU') ∧ (gD' = gD ∨ w.heap.size ≤ gD') ∧
    Tab.Ok3 bN ns us' ns.length ∧ 2 ^ p' = us'.length ∧ 2 * ns.length ≤ us'.length ∧ us'.length ≤ 4 * ns.length ∧ 8 ≤ us'.length

/-- What holds of memory while the table is made anew. -/
structure RN (w wr : World) (base D gN gU gD g g3 gU2 cap cap3 n m2 : Nat) (ns : List Tab.K3) (nus dp : List Int) : Prop where
  up : Upto (fun k => k = D ∨ k = gN ∨ k = gU ∨ k = gD) w wr
  d : Blk wr D [.slice (some ⟨g, 0, none⟩) n cap, .slice (some ⟨gU2, 0, none⟩) m2 m2, .slice (some ⟨g3, 0, none⟩) n cap3] 52
  nd : wr.ownsRow base 31 3 (.slice (some ⟨g, 0, none⟩) n cap) n (Tab.tcells ns)
  u : Ints wr gU2 .i32 21 nus
  p : wr.ownsRow base 21 1 (.slice (some ⟨g3, 0, none⟩) n cap3) n (dp.map (Value.int .i32))
theorem RN.alloc {w wr : World} {base D gN gU gD g g3 gU2 cap cap3 n m2 : Nat} {ns : List Tab.K3} {nus dp : List Int} (h : RN w wr base D gN gU gD g g3 gU2 cap cap3 n m2 ns nus dp) (o : Obj) : RN w (wr.alloc o) base D gN gU gD g g3 gU2 cap cap3 n m2 ns nus dp :=
  ⟨h.up.alloc o, h.d.alloc o, h.nd.alloc o, Blk.alloc h.u o, h.p.alloc o⟩
theorem RN.put {w wr : World} {base D gN gU gD g g3 gU2 cap cap3 n m2 : Nat} {ns : List Tab.K3} {nus dp : List Int} (h : RN w wr base D gN gU gD g g3 gU2 cap cap3 n m2 ns nus dp) (h1 : D ≠ gU2) (h2 : g ≠ gU2) (h3 : g3 ≠ gU2) (h4 : w.heap.size ≤ gU2) (j : Nat) (x : Int) : RN w (wr.setCell ⟨gU2, j, none⟩ (.int .i32 x)) base D gN gU gD g g3 gU2 cap cap3 n m2 ns (nus.set j x) dp := by
  have hu : Upto (fun k => k = gU2) wr (wr.setCell ⟨gU2, j, none⟩ (.int .i32 x)) := (Upto.refl (fun k => k = gU2) wr).setCell (p := ⟨gU2, j, none⟩) (fun _ => rfl) _
  exact ⟨h.up.setCell (p := ⟨gU2, j, none⟩) (fun hh => absurd hh (by simp; omega)) _, hu.blk h.d h1, hu.owns h.nd h2, h.u.set j x, hu.owns h.p h3⟩
theorem own3 {wr : World} {base g n cap : Nat} {ns : List Tab.K3} (h : wr.ownsRow base 31 3 (.slice (some ⟨g, 0, none⟩) n cap) n (Tab.tcells ns)) (hl : ns.length = n) {i : Nat} (hi : i < n) :
    wr.cell? ⟨g, i * 3, none⟩ = some (.int .i32 (Tab.nat3 ns i).1) ∧ wr.cell? ⟨g, i * 3 + 1, none⟩ = some (.int .i32 (Tab.nat3 ns i).2.1) ∧ wr.cell? ⟨g, i * 3 + 2, none⟩ = some (.int .i32 (Tab.nat3 ns i).2.2) := by
  refine ⟨?_, ?_, ?_⟩
  · rw [h.cellAt _ (by omega), Tab.tcells_at0 ns i (by omega)]
  · rw [h.cellAt _ (by omega), Tab.tcells_at1 ns i (by omega)]
  · rw [h.cellAt _ (by omega), Tab.tcells_at2 ns i (by omega)]
theorem info21n : (Try.prog.info? 21).map (fun i => (i.zero, i.size, i.bytes)) = some (some (.int .i32 0), 1, 4) := by kernel_rfl
theorem ok_miss3 {h : Tab.K3 → Nat} {ns : List Tab.K3} {us : List Int} {n : Nat} (o : Tab.Ok3 h ns us n) (hn : n < ns.length) : ∃ d, d < us.length ∧ us.getD ((h (Tab.nat3 ns n) + d) % us.length) 0 = 0 ∧ ∀ e, e < d → us.getD ((h (Tab.nat3 ns n) + e) % us.length) 0 ≠ 0 := by
  obtain ⟨d, hd, h0, hw⟩ := o.miss (Tab.nat3 ns n) (fun id h2 hlt e => by have h3 := o.two; have := o.inj id n h2 (by omega) (by omega) hn e; omega)
  exact ⟨d, hd, h0, fun e he => (hw e he).1⟩

theorem wp_sure {P : Program} {c : Code} {K : Act → World → Prop} {Q : Exit → Act → World → Prop} {a : Act} {w : World} (h : c.wp P (Exit.then K (fun _ _ _ => False)) a w) : c.wp P (Exit.then K Q) a w :=
  Code.wp_mono (fun e a w hq => by cases e <;> first | exact hq | exact (hq : False).elim) h

theorem pow_le_16' {p : Nat} (h : 2 ^ p ≤ 65536) : p ≤ 16 := by
  rcases Nat.lt_or_ge 16 p with h1 | h1
  · have : 2 ^ 17 ≤ 2 ^ p := Nat.pow_le_pow_right (by decide) h1
    omega
  · exact h1

set_option maxRecDepth 100000 in
set_option maxHeartbeats 4000000 in
theorem node_new (base D gN gU gD cN cD p m : Nat) (ns : List Tab.K3) (us dp : List Int) (v : Int) (l h : Nat) (w : World)
    (hv : -2147483648 ≤ v ∧ v ≤ 2147483647) (hl : l < ns.length) (hh : h < ns.length) (hlh : l ≠ h)
    (hp : 2 ^ p = m) (hlen : us.length = m) (hns : ns.length ≤ 10000) (hsz : m ≤ 4 * ns.length) (h8 : 8 ≤ m)
    (hG : DG w base D gN gU gD cN cD ns us dp) (hD : D ≠ gN ∧ D ≠ gU ∧ D ≠ gD ∧ gN ≠ gU ∧ gN ≠ gD ∧ gU ≠ gD) (hbase : base ≤ D)
    (ok : Tab.Ok3 bN ns us ns.length) (hk : ∀ id, 2 ≤ id → id < ns.length → Tab.nat3 ns id ≠ (v, (l : Int), (h : Int))) (hhalf : 2 * ns.length ≤ m)
    (hrg : ∀ id, 2 ≤ id → id < ns.length → -2147483648 ≤ (Tab.nat3 ns id).1 ∧ (Tab.nat3 ns id).1 ≤ 2147483647 ∧ 0 ≤ (Tab.nat3 ns id).2.1 ∧ (Tab.nat3 ns id).2.1 ≤ 2147483647 ∧ 0 ≤ (Tab.nat3 ns id).2.2 ∧ (Tab.nat3 ns id).2.2 ≤ 2147483647) :
    Calls Try.prog 35 #[.pointer (some ⟨D, 0, none⟩), .int .i32 v, .int .i32 l, .int .i32 h] w fun e w' => e = .returned (.int .i32 ns.length) ∧ NewNode w w' base D gN gU gD (ns ++ [(v, (l : Int), (h : Int))]) := by
  have hp16 := pow_le_16' (p := p) (by omega)
  obtain ⟨d, hd, h0, hw⟩ := ok.miss _ hk
  have hm : m ≤ 1048576 := by omega
  have hp2 : p ≤ 20 := by omega
  rw [hlen] at hd h0 hw
  have hb : ∀ x ∈ us, 0 ≤ x ∧ x < ns.length := by
    intro x hx
    by_cases hx0 : x = 0
    · subst hx0; omega
    · have : x ∈ Tab.keys us := Tab.mem_keys.2 ⟨hx, hx0⟩
      rw [ok.perm.mem_iff, Tab.mem_idsTo] at this
      obtain ⟨i, _, hi, rfl⟩ := this
      omega
  have HOk : Hid (Tab.Ok3 bN (ns ++ [(v, (l : Int), (h : Int))]) us ns.length) := ok.more _ hk
  clear ok hk
  obtain ⟨ns', HNs'⟩ : ∃ ns', Hid (ns' = ns ++ [(v, (l : Int), (h : Int))]) := ⟨_, rfl⟩
  have HRg : Hid (∀ id, 2 ≤ id → id < ns'.length → -2147483648 ≤ (Tab.nat3 ns' id).1 ∧ (Tab.nat3 ns' id).1 ≤ 2147483647 ∧ 0 ≤ (Tab.nat3 ns' id).2.1 ∧ (Tab.nat3 ns' id).2.1 ≤ 2147483647 ∧ 0 ≤ (Tab.nat3 ns' id).2.2 ∧ (Tab.nat3 ns' id).2.2 ≤ 2147483647) := by
    intro id h2 hlt
    rw [HNs'.out] at hlt ⊢
    rw [List.length_append, List.length_singleton] at hlt
    by_cases e : id < ns.length
    · rw [Tab.nat3_app e]; exact hrg id h2 e
    · have : id = ns.length := by omega
      rw [this, Tab.nat3_last]
      exact ⟨hv.1, hv.2, (by show (0 : Int) ≤ (l : Int); omega), (by show (l : Int) ≤ 2147483647; omega), (by show (0 : Int) ≤ (h : Int); omega), (by show (h : Int) ≤ 2147483647; omega)⟩
  have HLn : Hid (ns'.length = ns.length + 1) := by show ns'.length = _; rw [HNs'.out]; simp
  have HLast : Hid (Tab.nat3 ns' ns.length = (v, (l : Int), (h : Int))) := by show Tab.nat3 ns' ns.length = _; rw [HNs'.out]; exact Tab.nat3_last _ _
  rw [← HNs'.out] at HOk ⊢
  clear hrg
  have HP : Hid (2 ^ p = m) := hp
  have HL : Hid (us.length = m) := hlen
  have HG : Hid (DG w base D gN gU gD cN cD ns us dp) := hG
  have HW : Hid (∀ e, e < d → us.getD ((bN (v, (l : Int), (h : Int)) + e) % m) 0 ≠ 0 ∧ Tab.nat3 ns (us.getD ((bN (v, (l : Int), (h : Int)) + e) % m) 0).toNat ≠ (v, (l : Int), (h : Int))) := hw
  have H0 : Hid (us.getD ((bN (v, (l : Int), (h : Int)) + d) % m) 0 = 0) := h0
  have HB : Hid (∀ x ∈ us, 0 ≤ x ∧ x < ns.length) := hb
  have hm1 : 1 ≤ m := by omega
  have hlh' : ((l : Int) == (h : Int)) = false := by simp; omega
  have d1 : w.cell? ⟨D, 1, none⟩ = some (.slice (some ⟨gU, 0, none⟩) us.length us.length) := hG.d.cell rfl
  obtain ⟨l1, l2, l3, l4⟩ := hG.lt
  rw [hlen] at d1
  clear hp hlen hG hw h0 hb hlh
  have heq := eql31
  obtain ⟨n, hn⟩ : ∃ n, n = ns.length := ⟨_, rfl⟩
  rw [← hn] at hns hl hh hhalf hsz HOk HLn HLast ⊢
  have HNn : Hid (n = ns.length) := hn
  clear hn
  obtain ⟨hD1, hD2, hD3, hD4, hD5, hD6⟩ := hD
  go_enter Try.func35, Try.ntmps35
  go_wp2_with (go_at_call 39; refine (bhash_any _ _ _ _ hv (by omega) (by omega)).mono ?_; rintro e w' ⟨rfl, rfl⟩)
  go_loopw [11] (fun k wr => ∃ e j : Nat, e ≤ d ∧ j < m ∧ Hid (j = (bN (v, (l : Int), (h : Int)) + e) % m) ∧ k = .int .u64 j ∧ Hid (Upto (fun _ => False) ((w.alloc (.cells #[.int .i32 v, .int .i32 l, .int .i32 h] 31)).alloc (.cells #[.int .i32 v, .int .i32 l, .int .i32 h] 31)) wr)) (fun k _ => gap m ((bN (v, (l : Int), (h : Int)) + d) % m) (intOf k).toNat)
  case atStart => exact ⟨0, _, Nat.zero_le _, Nat.mod_lt _ hm1, rfl, by rw [bmask0 p m HP.out hp2], Upto.refl _ _⟩
  case round =>
    obtain ⟨e, j, he, hj, HJ, rfl, HU⟩ := hrel
    have HG' : Hid (DG wr base D gN gU gD cN cD ns us dp) := HG.out.upto (((Upto.refl (fun _ => False) w).alloc _).alloc _ |>.trans HU.out) (fun h => h) (fun h => h) (fun h => h) (fun h => h)
    have HKB : Hid (Blk wr w.heap.size [.int .i32 v, .int .i32 l, .int .i32 h] 31) := HU.out.blk ((Blk.new w [.int .i32 v, .int .i32 l, .int .i32 h] 31).alloc _) (fun h => h)
    have e1 : wr.cell? ⟨D, 1, none⟩ = some (.slice (some ⟨gU, 0, none⟩) m m) := by have : wr.cell? ⟨D, 1, none⟩ = some (.slice (some ⟨gU, 0, none⟩) us.length us.length) := HG'.out.d.cell rfl; rw [HL.out] at this; exact this
    have e0 : wr.cell? ⟨D, 0, none⟩ = some (.slice (some ⟨gN, 0, none⟩) n cN) := by have : wr.cell? ⟨D, 0, none⟩ = some (.slice (some ⟨gN, 0, none⟩) ns.length cN) := HG'.out.d.cell rfl; rw [← HNn.out] at this; exact this
    have k0 : wr.cell? ⟨w.heap.size, 0, none⟩ = some (.int .i32 v) := HKB.out.cell rfl
    have k1 : wr.cell? ⟨w.heap.size, 1, none⟩ = some (.int .i32 l) := HKB.out.cell rfl
    have k2 : wr.cell? ⟨w.heap.size, 2, none⟩ = some (.int .i32 h) := HKB.out.cell rfl
    have cj := HG'.out.u.cell (i := j) (by rw [HL.out]; exact hj)
    by_cases hlt : e < d
    · have hv2 := HW.out e hlt
      rw [← HJ.out] at hv2
      obtain ⟨x, hx⟩ : ∃ x : Nat, us.getD j 0 = (x : Int) := by
        have := HB.out _ (Tab.mem_of_getD (sl := us) (i := j) (by rw [HL.out]; exact hj))
        exact ⟨(us.getD j 0).toNat, by omega⟩
      have hxn : x < n := by
        have := HB.out _ (Tab.mem_of_getD (sl := us) (i := j) (by rw [HL.out]; exact hj))
        rw [hx] at this; have := HNn.out; omega
      rw [hx, Int.toNat_natCast] at hv2
      rw [hx] at cj
      have c0 := HG'.out.c0 (i := x) (by rw [← HNn.out]; exact hxn)
      have c1 := HG'.out.c1 (i := x) (by rw [← HNn.out]; exact hxn)
      have c2 := HG'.out.c2 (i := x) (by rw [← HNn.out]; exact hxn)
      generalize Tab.nat3 ns x = y at c0 c1 c2 hv2
      obtain ⟨y0, y1, y2⟩ := y
      dsimp only at c0 c1 c2
      have hne := ne3 hv2.2
      have hx0 : ((x : Int) != 0) = true := by simpa using hv2.1
      have hx1 : (0 : Int) ≤ (x : Int) := by omega
      have hx2 : (x : Int) < (n : Int) := by omega
      clear hv2 hx
      go_wp2
      go_quiet (fail)
      go_wp2
      go_roundw
      case rel => exact ⟨e + 1, _, by omega, Nat.mod_lt _ hm1, rfl, by rw [← mask1 p m HP.out hp2, ← HJ.out], HU.out.drewN _⟩
      case measure =>
        simp only [intOf]
        rw [HJ.out, mask1 p m HP.out hp2, Int.toNat_natCast, Int.toNat_natCast, gap_eq _ _ _ _ hlt hd, gap_eq _ _ _ _ he hd]
        omega
    · have hv2 := H0.out
      have ed : e = d := by omega
      rw [← ed, ← HJ.out] at hv2
      rw [hv2] at cj
      have HE : Hid (e = d) := ed
      clear ed hv2
      have f0 := HG'.out.d.frozen 0
      have hrl : w.heap.size < wr.heap.size := HKB.out.lt
      obtain ⟨l1', l2', l3', l4'⟩ := HG'.out.lt
      go_wp2
      obtain ⟨i31, hi31, hz0, hz1, hz2⟩ := info_parts info31
      have HOwn : Hid (wr.ownsRow base 31 3 (.slice (some ⟨gN, 0, none⟩) n cN) n (Tab.tcells ns)) := by have := HG'.out.n; rw [← HNn.out] at this; exact this
      have HOwnD : Hid (wr.ownsRow base 21 1 (.slice (some ⟨gD, 0, none⟩) n cD) n (dp.map (Value.int .i32))) := by have := HG'.out.p; rw [← HNn.out] at this; exact this
      have HDb : Hid (Blk wr D [.slice (some ⟨gN, 0, none⟩) n cN, .slice (some ⟨gU, 0, none⟩) m m, .slice (some ⟨gD, 0, none⟩) n cD] 52) := by have := HG'.out.d; rw [← HNn.out, HL.out] at this; exact this
      go_cut [13] (fun vid wc => vid = .int .i32 n ∧ ∃ g cap : Nat, Hid (Upto (fun k => k = D ∨ k = gN) wr wc) ∧ Hid (Blk wc D [.slice (some ⟨g, 0, none⟩) (n + 1) cap, .slice (some ⟨gU, 0, none⟩) m m, .slice (some ⟨gD, 0, none⟩) n cD] 52) ∧
        Hid (wc.ownsRow base 31 3 (.slice (some ⟨g, 0, none⟩) (n + 1) cap) (n + 1) (Tab.tcells ns')) ∧ Hid (g = gN ∨ wr.heap.size ≤ g))
      case first =>
        go_region_law (refine step_append_lies _ rfl (.tmp 74) (.tmp 76) 28 (by rfl) base 31 i31 _ 3 12 Try.underlying28 hi31 hz0 hz1 hz2 rfl (by decide) (.slice (some ⟨gN, 0, none⟩) n cN) n (Tab.tcells ns) (by rfl) (by first | exact HOwn.out.alloc _ | exact (HOwn.out.alloc _).drew) ⟨wr.heap.size, 0, none⟩ 1 1 [.int .i32 v, .int .i32 l, .int .i32 h] (by rfl) (by rfl) (World.news_of_block (heap_alloc_new _ _)) (Tab.tcells_one [(v, (l : Int), (h : Int))]) (by omega) (by unfold maxLen; omega) (by omega) (by simp; omega) (wr.heap.size + 1) (by simp) ?_; intro g cap w1 hown hgrow hat hlt'; have HD1 : Hid (Blk w1 D [.slice (some ⟨gN, 0, none⟩) n cN, .slice (some ⟨gU, 0, none⟩) m m, .slice (some ⟨gD, 0, none⟩) n cD] 52) := (Upto.ofGrown hgrow).blk (HDb.out.alloc _) (by simp [Value.ownBlock]; omega); have q0 : w1.cell? ⟨D, 0, none⟩ = some (.slice (some ⟨gN, 0, none⟩) n cN) := HD1.out.cell rfl; have q1 := HD1.out.frozen 0)
        all_goals
          go_wp2
          go_meet
          case rel =>
            have hgr : Upto (fun k => k = D ∨ k = gN) wr w1 := (((Upto.refl (fun k => k = D ∨ k = gN) wr).alloc _).drew).trans ((Upto.ofGrown hgrow).mono (fun k _ e => Or.inr (by simpa [Value.ownBlock] using e.symm)))
            refine ⟨rfl, g, cap, hgr.setCell (p := ⟨D, 0, none⟩) (fun _ => Or.inl rfl) _, HD1.out.set 0 _, ?_, ?_⟩
            · rw [HNs'.out, Tab.tcells_snoc]
              have hgD : g ≠ D := by rcases hat with e | e; simp [Value.ownBlock] at e; omega; omega
              exact (((Upto.refl (fun k => k = D) w1).setCell (p := ⟨D, 0, none⟩) (fun _ => rfl) _).owns hown hgD)
            · rcases hat with e | e
              · left; simpa [Value.ownBlock] using e.symm
              · right; omega
      case rest =>
        obtain ⟨rfl, g, cap, HU2, HD2, HO2, Hg⟩ := hcut
        have hwc : wr.heap.size ≤ wc.heap.size := HU2.out.size
        have HOD : Hid (wc.ownsRow base 21 1 (.slice (some ⟨gD, 0, none⟩) n cD) n (dp.map (Value.int .i32))) := HU2.out.owns HOwnD.out (by omega)
        have HUs : Hid (Ints wc gU .i32 21 us) := HU2.out.ints HG'.out.u (by omega)
        have HPl : Hid (dp.length = n) := HG'.out.pl.trans HNn.out.symm
        have d2 : wc.cell? ⟨D, 2, none⟩ = some (.slice (some ⟨gD, 0, none⟩) n cD) := HD2.out.cell rfl
        have f2 := HD2.out.frozen 2
        have hDc : D < wc.heap.size := HD2.out.lt
        have hgDc : gD < wc.heap.size := by omega
        have el : wc.cell? ⟨gD, l, none⟩ = some (.int .i32 (dp.getD l 0)) := by
          have hi' : l < dp.length := by rw [HPl.out]; exact hl
          rw [HOD.out.cellAt _ (by omega), List.getElem?_map, List.getD_eq_getElem?_getD, List.getElem?_eq_getElem hi']; rfl
        have eh : wc.cell? ⟨gD, h, none⟩ = some (.int .i32 (dp.getD h 0)) := by
          have hi' : h < dp.length := by rw [HPl.out]; exact hh
          rw [HOD.out.cellAt _ (by omega), List.getElem?_map, List.getD_eq_getElem?_getD, List.getElem?_eq_getElem hi']; rfl
        generalize dp.getD l 0 = pl at el
        generalize dp.getD h 0 = ph at eh
        have hl0 : (0 : Int) ≤ (l : Int) := by omega
        have hh0 : (0 : Int) ≤ (h : Int) := by omega
        have hln : (l : Int) < (n : Int) := by omega
        have hhn : (h : Int) < (n : Int) := by omega
        clear e0 e1 k0 k1 k2 cj f0 hz0 hz1 hz2 hi31 d1 heq
        have hgne : D ≠ g ∧ g ≠ gU ∧ g ≠ gD := by rcases Hg.out with e | e <;> omega
        go_wp2
        refine wp_sure (reg13 _ (by kernel_rfl) D gD n cD base l h (.slice (some ⟨g, 0, none⟩) (n + 1) cap) (.slice (some ⟨gU, 0, none⟩) m m) dp pl ph wc HD2 HOD el eh hl hh hns hbase (by omega) _ ?_)
        · intro y80 y81 y82 y83 y84 y85 y86 y87 y88 y89 y90 y91 y92 y93 y94 y95 y96 y97 y98 y99 y100 y101 y102 y103 y104 g3 cap3 q wd hu3 hb3 ho3 hg3
          have hgl : g < wc.heap.size := (HO2.out.lt g rfl).2
          have HU4 : Hid (Upto (fun k => k = D ∨ k = gN ∨ k = gD) wr wd) := (HU2.out.mono (fun k _ e => by omega)).trans (hu3.mono (fun k _ e => by omega))
          have HD4 : Hid (Blk wd D [.slice (some ⟨g, 0, none⟩) (n + 1) cap, .slice (some ⟨gU, 0, none⟩) m m, .slice (some ⟨g3, 0, none⟩) (n + 1) cap3] 52) := hb3
          have HOp : Hid (wd.ownsRow base 21 1 (.slice (some ⟨g3, 0, none⟩) (n + 1) cap3) (n + 1) ((dp ++ [q]).map (Value.int .i32))) := ho3
          have HOn : Hid (wd.ownsRow base 31 3 (.slice (some ⟨g, 0, none⟩) (n + 1) cap) (n + 1) (Tab.tcells ns')) := hu3.owns HO2.out (by omega)
          have HUs4 : Hid (Ints wd gU .i32 21 us) := hu3.ints HUs.out (by omega)
          have Hg3 : Hid ((g3 = gD ∨ wr.heap.size ≤ g3) ∧ g3 ≠ g ∧ g3 ≠ gU ∧ D ≠ g3) := ⟨by omega, by omega, by omega, by omega⟩
          clear hu3 hb3 ho3 hg3
          obtain ⟨hg3a, hg3b, hg3c, hg3d⟩ := Hg3.out
          clear d2 f2 hDc hgDc el eh hwc hgl
          have hwc : wr.heap.size ≤ wd.heap.size := HU4.out.size
          have d1 : wd.cell? ⟨D, 1, none⟩ = some (.slice (some ⟨gU, 0, none⟩) m m) := HD4.out.cell rfl
          have d0 : wd.cell? ⟨D, 0, none⟩ = some (.slice (some ⟨g, 0, none⟩) (n + 1) cap) := HD4.out.cell rfl
          have f1 := HD4.out.frozen 1
          have fU := Blk.frozen HUs4.out
          have cu := HUs4.out.cell (i := j) (by rw [HL.out]; exact hj)
          generalize us.getD j 0 = uj at cu
          have hDc : D < wd.heap.size := HD4.out.lt
          have hDU : D ≠ gU := by omega
          have HUw : Hid (Upto (fun k => k = D ∨ k = gN ∨ k = gU ∨ k = gD) w wd) := ((((Upto.refl (fun _ => False) w).alloc _).alloc _).trans HU.out |>.mono (fun k _ h => absurd h (fun h => h))).trans (HU4.out.mono (fun k _ e => by omega))
          have hww : w.heap.size ≤ wr.heap.size := by omega
          have HOk2 : Hid (Tab.Ok3 bN ns' (us.set j n) (n + 1)) := by
            have h0' := H0.out
            have hj' : j = (bN (v, (l : Int), (h : Int)) + d) % m := HJ.out.trans (by rw [HE.out])
            have := HOk.out.put (by rw [HLn.out]; omega) d (by rw [HL.out]; exact hd) (by rw [HLast.out, HL.out]; exact h0') (by rw [HLast.out, HL.out]; exact fun e he => (HW.out e he).1) (by rw [HL.out]; omega)
            rw [HLast.out, HL.out, ← hj'] at this
            exact this
          have HLd : Hid ((dp ++ [q]).length = n + 1) := by show (dp ++ [q]).length = n + 1; rw [List.length_append, HPl.out]; rfl
          clear HPl
          go_wp2
          go_quiet (fail)
          by_cases hroom : 2 * (n + 1) ≤ m
          · go_wp2
            go_ret
            refine ⟨rfl, g, gU, g3, cap, cap3, p, us.set j n, dp ++ [q], ⟨?_, ?_, ?_, ?_, ?_⟩, ?_, ⟨by omega, by omega, by omega, by omega, by omega, by omega⟩, by rcases Hg.out with e | e <;> omega, Or.inl rfl, by omega, ?_, ?_, ?_, ?_, ?_⟩
            · rw [HLn.out, List.length_set, HL.out]
              exact (HD4.out.other (a := ⟨gU, j, none⟩) hDU _).drewN _
            · rw [HLn.out]
              exact ((Upto.refl (fun k => k = gU) wd).setCell (p := ⟨gU, j, none⟩) (fun _ => rfl) _).owns HOn.out (by omega)
            · exact (HUs4.out.set j n).drewN _
            · rw [HLn.out]
              exact ((Upto.refl (fun k => k = gU) wd).setCell (p := ⟨gU, j, none⟩) (fun _ => rfl) _).owns HOp.out (by omega)
            · rw [HLn.out, HLd.out]
            · exact (HUw.out.setCell (p := ⟨gU, j, none⟩) (fun _ => Or.inr (Or.inr (Or.inl rfl))) _).drewN _
            · rw [HLn.out]; exact HOk2.out
            · rw [List.length_set, HL.out]; exact HP.out
            · rw [List.length_set, HL.out, HLn.out]; exact hroom
            · rw [List.length_set, HL.out, HLn.out]; omega
            · rw [List.length_set, HL.out]; exact h8
          · obtain ⟨m2, hm2⟩ : ∃ m2 : Nat, 2 * (m : Int) = (m2 : Int) := ⟨2 * m, by omega⟩
            have HM2 : Hid (m2 = 2 * m) := by show m2 = 2 * m; omega
            have hm2b : m2 ≤ 1048576 := by omega
            have hmk := make22 .i64 m2 hm2b
            obtain ⟨gU2, HgU2⟩ : ∃ g, Hid (g = wd.heap.size) := ⟨_, rfl⟩
            have hgl4 : g < wd.heap.size := (HOn.out.lt g rfl).2
            have hg3l4 : g3 < wd.heap.size := (HOp.out.lt g3 rfl).2
            have hU2 : wd.heap.size = gU2 := HgU2.out.symm
            have hDU2 : D ≠ gU2 := by omega
            have hgU2n : g ≠ gU2 := by omega
            have hg3U2 : g3 ≠ gU2 := by omega
            have hwU2 : w.heap.size ≤ gU2 := by omega
            clear hU2
            have hn2 : 2 ≤ n := HOk.out.two
            go_wp2
            rw [← HgU2.out]
            have HR0 : Hid (RN w ((((wd.setCell { block := gU, off := j } (Value.int IntKind.i32 ↑n)).drewN nq).setCell { block := D, off := 1 } (Value.slice (some { block := gU2, off := 0 }) m2 m2)).alloc (Obj.cells (madeCells #[Value.int IntKind.i32 0] m2) 21)) base D gN gU gD g g3 gU2 cap cap3 (n + 1) m2 ns' (List.replicate m2 0) (dp ++ [q])) := by
              have hu : Upto (fun k => k = gU ∨ k = D) wd ((((wd.setCell { block := gU, off := j } (Value.int IntKind.i32 ↑n)).drewN nq).setCell { block := D, off := 1 } (Value.slice (some { block := gU2, off := 0 }) m2 m2)).alloc (Obj.cells (madeCells #[Value.int IntKind.i32 0] m2) 21)) := ((((Upto.refl (fun k => k = gU ∨ k = D) wd).setCell (p := ⟨gU, j, none⟩) (fun _ => Or.inl rfl) _).drewN _).setCell (p := ⟨D, 1, none⟩) (fun _ => Or.inr rfl) _).alloc _
              refine ⟨HUw.out.trans (hu.mono (fun k _ e => by omega)), ?_, hu.owns HOn.out (by omega), ?_, hu.owns HOp.out (by omega)⟩
              · exact (((HD4.out.other (a := ⟨gU, j, none⟩) hDU _).drewN nq).set 1 _).alloc _
              · have h1 := Ints.made (((wd.setCell { block := gU, off := j } (Value.int IntKind.i32 ↑n)).drewN nq).setCell { block := D, off := 1 } (Value.slice (some { block := gU2, off := 0 }) m2 m2)) .i32 21 m2
                have hz : (((wd.setCell { block := gU, off := j } (Value.int IntKind.i32 ↑n)).drewN nq).setCell { block := D, off := 1 } (Value.slice (some { block := gU2, off := 0 }) m2 m2)).heap.size = wd.heap.size := by
                  rw [World.size_setCell]
                  show (wd.setCell _ _).heap.size = _
                  rw [World.size_setCell]
                rw [hz, ← HgU2.out] at h1
                exact h1
            have HInj : Hid (∀ i j, 2 ≤ i → i < ns'.length → 2 ≤ j → j < ns'.length → Tab.nat3 ns' i = Tab.nat3 ns' j → i = j) := HOk2.out.inj
            have HP2 : Hid (2 ^ (p + 1) = m2) := by show 2 ^ (p + 1) = m2; rw [HM2.out, Nat.pow_succ, HP.out]; omega
            clear hmk d0 d1 f1 fU cu HD4 HOn HUs4 HOp HU4 HUw hgl4 hg3l4 hDc HOk2 HOk
            go_loopw [14] (fun i wx => ∃ k : Nat, ∃ nus : List Int, 2 ≤ k ∧ k ≤ n + 1 ∧ i = .int .i32 k ∧ Hid (RN w wx base D gN gU gD g g3 gU2 cap cap3 (n + 1) m2 ns' nus (dp ++ [q])) ∧ Hid (nus.length = m2) ∧ Hid (Tab.Ok3 bN ns' nus k)) (fun i _ => n + 1 - (intOf i).toNat)
            case atStart => exact ⟨2, _, by omega, by omega, rfl, HR0, List.length_replicate, Tab.Ok3.empty bN ns' m2 (by omega) HInj.out (by rw [HLn.out]; omega)⟩
            case round =>
              clear HR0
              obtain ⟨k, nus, hk1, hk2, rfl, HR, HNL, HOK⟩ := hrel
              have e0 : wr.cell? ⟨D, 0, none⟩ = some (.slice (some ⟨g, 0, none⟩) (n + 1) cap) := HR.out.d.cell rfl
              have e1 : wr.cell? ⟨D, 1, none⟩ = some (.slice (some ⟨gU2, 0, none⟩) m2 m2) := HR.out.d.cell rfl
              have hDx : D < wr.heap.size := HR.out.d.lt
              have hUx : gU2 < wr.heap.size := Blk.lt HR.out.u
              have fU := Blk.frozen HR.out.u
              by_cases hlt : k < n + 1
              · have c3 := own3 HR.out.nd HLn.out hlt
                have hrk := HRg.out k hk1 (by rw [HLn.out]; exact hlt)
                obtain ⟨d2, hd2, h02, hw2⟩ := ok_miss3 HOK.out (by rw [HLn.out]; exact hlt)
                rw [HNL.out] at hd2 h02 hw2
                have HQ : Hid (Tab.Ok3 bN ns' (nus.set ((bN (Tab.nat3 ns' k) + d2) % m2) k) (k + 1)) := by
                  have := HOK.out.put (by rw [HLn.out]; exact hlt) d2 (by rw [HNL.out]; exact hd2) (by rw [HNL.out]; exact h02) (by rw [HNL.out]; exact hw2) (by rw [HNL.out]; omega)
                  rw [HNL.out] at this
                  exact this
                generalize Tab.nat3 ns' k = y at c3 hrk h02 hw2 HQ
                obtain ⟨y0, y1, y2⟩ := y
                dsimp only at c3 hrk
                obtain ⟨c30, c31, c32⟩ := c3
                obtain ⟨r1, r2, r3, r4, r5, r6⟩ := hrk
                have H02 : Hid (nus.getD ((bN (y0, y1, y2) + d2) % m2) 0 = 0) := h02
                have HW2 : Hid (∀ e, e < d2 → nus.getD ((bN (y0, y1, y2) + e) % m2) 0 ≠ 0) := hw2
                clear h02 hw2
                have hgx : g < wr.heap.size := (HR.out.nd.lt g rfl).2
                go_wp2_with (go_at_call 39; refine (bhash_any _ _ _ _ ⟨r1, r2⟩ ⟨r3, r4⟩ ⟨r5, r6⟩).mono ?_; rintro e w' ⟨rfl, rfl⟩)
                go_loop [15] (fun v => ∃ e j : Nat, e ≤ d2 ∧ j < m2 ∧ Hid (j = (bN (y0, y1, y2) + e) % m2) ∧ v = .int .u64 j) (fun v => gap m2 ((bN (y0, y1, y2) + d2) % m2) (intOf v).toNat)
                case atStart => exact ⟨0, _, Nat.zero_le _, Nat.mod_lt _ (by omega), rfl, by rw [bmask0 (p + 1) m2 HP2.out (by omega)]⟩
                case round =>
                  obtain ⟨e2, j2, he2, hj2, HJ2, rfl⟩ := hrel
                  have cj := HR.out.u.cell (i := j2) (by rw [HNL.out]; exact hj2)
                  by_cases hlt2 : e2 < d2
                  · have hv2 := HW2.out e2 hlt2
                    rw [← HJ2.out] at hv2
                    generalize nus.getD j2 0 = uu at cj hv2
                    have hv2' : (uu != 0) = true := by simpa using hv2
                    clear hv2
                    go_wp2
                    go_round
                    case rel => exact ⟨e2 + 1, _, by omega, Nat.mod_lt _ (by omega), rfl, by rw [← mask1 (p + 1) m2 HP2.out (by omega), ← HJ2.out]⟩
                    case measure =>
                      simp only [intOf]
                      rw [HJ2.out, mask1 (p + 1) m2 HP2.out (by omega), Int.toNat_natCast, Int.toNat_natCast, gap_eq _ _ _ _ hlt2 hd2, gap_eq _ _ _ _ he2 hd2]
                      omega
                  · have hv2 := H02.out
                    have ed : e2 = d2 := by omega
                    rw [← ed, ← HJ2.out] at hv2
                    have HE2 : Hid (e2 = d2) := ed
                    rw [hv2] at cj
                    clear ed hv2
                    go_wp2
                    go_roundw
                    case rel =>
                      refine ⟨k + 1, by omega, by omega, by go_num, nus.set j2 k, (HR.out.put hDU2 hgU2n hg3U2 hwU2 j2 k).alloc _, by show (nus.set j2 k).length = m2; rw [List.length_set]; exact HNL.out, ?_⟩
                      rw [HJ2.out, HE2.out]; exact HQ.out
                    case measure => simp [intOf]; omega
              · have hkn : k = n + 1 := by omega
                go_wp2
                go_ret
                refine ⟨rfl, g, gU2, g3, cap, cap3, p + 1, nus, dp ++ [q], ⟨?_, ?_, HR.out.u, ?_, ?_⟩, HR.out.up, ⟨by omega, by omega, by omega, by omega, by omega, by omega⟩, by rcases Hg.out with e | e <;> omega, Or.inr hwU2, by omega, ?_, ?_, ?_, ?_, ?_⟩
                · rw [HLn.out, HNL.out]; exact HR.out.d
                · rw [HLn.out]; exact HR.out.nd
                · rw [HLn.out]; exact HR.out.p
                · rw [HLn.out, HLd.out]
                · rw [HLn.out, ← hkn]; exact HOK.out
                · rw [HNL.out]; exact HP2.out
                · rw [HNL.out, HLn.out]; omega
                · rw [HNL.out, HLn.out]; omega
                · rw [HNL.out]; omega
end Go.Proofs.Qxb6600921a
