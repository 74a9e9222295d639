/-
  FnHex4RoundTrip: the walk of the law.
-/
import Derived.Test.Qxb6601053aHx4
import Derived.Laws.OwnMore
namespace Go.Proofs.Qxb6601053a
open Go.RowKit
set_option linter.unusedVariables false

/-- What is known of a slice of bytes that came in. -/
def SrcB (w : World) (a : Option Addr) (len cap : Nat) (zs : List Int) : Prop :=
  (a = none ∧ len = 0 ∧ cap = 0 ∧ zs = []) ∨
  ∃ x, a = some x ∧ len ≤ zs.length ∧ ∀ i, i < zs.length → w.cell? (x.add i) = some (.int .u8 (zs.getD i 0))

theorem info5h : (Try.prog.info? 5).map (fun i => (i.zero, i.size, i.bytes)) = some (some (.int .u8 0), 1, 1) := by kernel_rfl

/-- The ways on which the law says true at once. -/
theorem lawhx_out (a : Option Addr) (len cap : Nat) (v u : Int) (a' : Option Addr) (len' cap' : Nat) (w : World) (h : len ≤ maxLen) (h' : len' ≤ maxLen) (hout : 1048576 < len + len' ∨ 524288 < len ∨ 524288 < len') :
    Calls Try.prog 5 #[.slice a len cap, .int .u16 v, .int .u8 u, .slice a' len' cap'] w fun e w' => e = .returned (.bool true) ∧ w = w' := by
  by_cases c1 : len + len' ≤ 1048576
  · have hb : Hid (decide (len + len' ≤ 1048576) = true) := decide_eq_true c1
    by_cases c2 : 524288 < len
    · clear hout
      go_enter Try.func5, Try.ntmps5
      go_wp2_with (go_at_call 15; refine (bytes15 _ _ _ _ _ _ _ _ _ h h' true hb).mono ?_; rintro e w' ⟨rfl, rfl⟩)
      go_ret
      exact ⟨rfl, rfl⟩
    · have c3 : 524288 < len' := by omega
      clear hout
      go_enter Try.func5, Try.ntmps5
      go_wp2_with (go_at_call 15; refine (bytes15 _ _ _ _ _ _ _ _ _ h h' true hb).mono ?_; rintro e w' ⟨rfl, rfl⟩)
      go_ret
      exact ⟨rfl, rfl⟩
  · have hb : Hid (decide (len + len' ≤ 1048576) = false) := decide_eq_false c1
    go_enter Try.func5, Try.ntmps5
    go_wp2_with (go_at_call 15; refine (bytes15 _ _ _ _ _ _ _ _ _ h h' false hb).mono ?_; rintro e w' ⟨rfl, rfl⟩)
    go_ret
    exact ⟨rfl, rfl⟩

/-- The bytes of a slice that came in, as cells. -/
def bytesOf (zs : List Int) (len : Nat) : List Value := (zs.take len).map (Value.int .u8)

theorem srcb_none {w : World} {a : Option Addr} {len cap : Nat} {zs : List Int} (h : SrcB w a len cap zs) : a = none → len = 0 ∧ cap = 0 := by
  intro e
  rcases h with ⟨_, h1, h2, _⟩ | ⟨x, h1, _⟩
  · exact ⟨h1, h2⟩
  · rw [e] at h1; cases h1
theorem srcb_len {w : World} {a : Option Addr} {len cap : Nat} {zs : List Int} (h : SrcB w a len cap zs) : (bytesOf zs len).length = len := by
  unfold bytesOf
  rcases h with ⟨_, h1, h2, h3⟩ | ⟨x, h1, h2, _⟩
  · subst h1; simp
  · simp; omega
theorem srcb_cells {w w1 : World} {a : Option Addr} {len cap : Nat} {zs : List Int} (h : SrcB w a len cap zs) (hu : Upto (fun k => w.heap.size ≤ k) w w1) :
    ∀ ad, a = some ad → ∀ j u, (bytesOf zs len)[j]? = some u → w1.cell? (ad.add j) = some u := by
  intro ad e j u hj
  rcases h with ⟨h1, _⟩ | ⟨x, h1, h2, h3⟩
  · rw [h1] at e; cases e
  · rw [h1] at e
    cases e
    have hjl := (List.getElem?_eq_some_iff.1 hj).1
    have hjz : j < len := by unfold bytesOf at hjl; simp at hjl; omega
    have hjz2 : j < zs.length := by omega
    have c0 := h3 j hjz2
    have e : u = .int .u8 (zs.getD j 0) := by
      unfold bytesOf at hj
      rw [List.getElem?_map, List.getElem?_take, if_pos hjz, List.getElem?_eq_getElem hjz2] at hj
      rw [List.getD_eq_getElem?_getD, List.getElem?_eq_getElem hjz2]
      simpa using hj.symm
    rw [e, ← c0]
    have hlt := block_lt_of_cell c0
    exact World.cell?_of_block (w := w) (hu.block _ hlt (by show ¬ w.heap.size ≤ _; exact Nat.not_le.2 hlt))
theorem bytesOf_one (zs : List Int) (len : Nat) : ∀ u ∈ bytesOf zs len, u.oneCell' = true := ints_oneCell .u8 _

/-- The digits and their cases. -/
def dgOf (v k : Nat) : Nat := v / 2 ^ (12 - 4 * k) % 16
def upOf (u k : Nat) : Bool := decide (u / 2 ^ k % 2 = 1)
def hexs (v u k : Nat) : List Value := (List.range k).map fun j => Value.int .u8 (hexd (dgOf v j) (upOf u j))
theorem hexs_succ (v u k : Nat) : hexs v u (k + 1) = hexs v u k ++ [Value.int .u8 (hexd (dgOf v k) (upOf u k))] := by
  unfold hexs; rw [List.range_succ, List.map_append]; rfl
theorem accH_v (v : Nat) (h : v < 65536) : accH (dgOf v) 4 = v := by
  simp only [accH, dgOf]
  omega

theorem and1 (x : Nat) (h : x < 256) : bits .and .u8 (x : Int) 1 = ((x % 2 : Nat) : Int) := by
  have h1 : (BitVec.ofInt 8 (x : Int)).toNat = x := by
    rw [BitVec.toNat_ofInt]; omega
  have h2 : (BitVec.ofInt 8 (1 : Int)).toNat = 1 := by decide
  have h3 : x &&& 1 = x % 2 := Nat.and_two_pow_sub_one_eq_mod x 1
  have h4 : (BitVec.ofInt 8 (x : Int) &&& BitVec.ofInt 8 (1 : Int)).toNat = x % 2 := by
    rw [BitVec.toNat_and, h1, h2, h3]
  have h5 : (IntKind.wrap .u8 ((BitVec.ofInt 8 (x : Int) &&& BitVec.ofInt 8 (1 : Int)).toNat : Int)) = ((x % 2 : Nat) : Int) := by
    rw [h4]
    simp [IntKind.wrap, IntKind.bits, IntKind.signed]
    omega
  exact h5
theorem and1b (x : Nat) (h : x < 256) : (bits .and .u8 (x : Int) 1 == 1) = decide (x % 2 = 1) := by
  rw [and1 x h]
  rcases Nat.mod_two_eq_zero_or_one x with e | e <;> rw [e] <;> rfl
theorem dgOf_lt (v k : Nat) : dgOf v k < 16 := Nat.mod_lt _ (by omega)
theorem dig0 (v : Nat) (h : v < 65536) : bits .and .i64 ((v : Int) / 4096) 15 = (dgOf v 0 : Int) := by
  have := and15 (v / 4096) (by omega)
  simpa [dgOf] using this
theorem upp0 (u : Nat) (h : u < 256) : (bits .and .u8 ((u : Int)) 1 == 1) = upOf u 0 := by
  have := and1b (u) (by omega)
  simpa [upOf] using this
theorem dig1 (v : Nat) (h : v < 65536) : bits .and .i64 ((v : Int) / 256) 15 = (dgOf v 1 : Int) := by
  have := and15 (v / 256) (by omega)
  simpa [dgOf] using this
theorem upp1 (u : Nat) (h : u < 256) : (bits .and .u8 ((u : Int) / 2) 1 == 1) = upOf u 1 := by
  have := and1b (u / 2) (by omega)
  simpa [upOf] using this
theorem dig2 (v : Nat) (h : v < 65536) : bits .and .i64 ((v : Int) / 16) 15 = (dgOf v 2 : Int) := by
  have := and15 (v / 16) (by omega)
  simpa [dgOf] using this
theorem upp2 (u : Nat) (h : u < 256) : (bits .and .u8 ((u : Int) / 4) 1 == 1) = upOf u 2 := by
  have := and1b (u / 4) (by omega)
  simpa [upOf] using this
theorem dig3 (v : Nat) (h : v < 65536) : bits .and .i64 ((v : Int)) 15 = (dgOf v 3 : Int) := by
  have := and15 (v) (by omega)
  simpa [dgOf] using this
theorem upp3 (u : Nat) (h : u < 256) : (bits .and .u8 ((u : Int) / 8) 1 == 1) = upOf u 3 := by
  have := and1b (u / 8) (by omega)
  simpa [upOf] using this
theorem row0 (pre suf : List Value) (v u : Nat) {len : Nat} (h : pre.length = len) : (pre ++ [.int .u8 92, .int .u8 117] ++ hexs v u 4 ++ suf)[len]? = some (.int .u8 92) := by
  subst h; simp
theorem row1 (pre suf : List Value) (v u : Nat) {len : Nat} (h : pre.length = len) : (pre ++ [.int .u8 92, .int .u8 117] ++ hexs v u 4 ++ suf)[len + 1]? = some (.int .u8 117) := by
  subst h; simp
theorem rowk (pre suf : List Value) (v u : Nat) {len : Nat} (h : pre.length = len) (k : Nat) (hk : k < 4) : (pre ++ [.int .u8 92, .int .u8 117] ++ hexs v u 4 ++ suf)[len + 2 + k]? = some (.int .u8 (hexd (dgOf v k) (upOf u k))) := by
  subst h
  have hl : (hexs v u 4).length = 4 := rfl
  rw [List.getElem?_append_left (by simp [hl]; omega), List.getElem?_append_right (by simp)]
  have e : pre.length + 2 + k - (pre ++ [Value.int .u8 92, Value.int .u8 117]).length = k := by simp
  rw [e]
  match k, hk with
  | 0, _ => rfl
  | 1, _ => rfl
  | 2, _ => rfl
  | 3, _ => rfl
theorem one2 : ∀ u ∈ ([.int .u8 92, .int .u8 117] : List Value), u.oneCell' = true := by
  intro u hu
  simp at hu
  rcases hu with rfl | rfl <;> rfl
theorem one1 (x : Int) : ∀ u ∈ ([.int .u8 x] : List Value), u.oneCell' = true := by
  intro u hu
  simp at hu
  subst hu; rfl
theorem new_cells (w : World) (cs : Array Value) (t : TypeId) : ∀ j u, cs.toList[j]? = some u → (w.alloc (.cells cs t)).cell? ((⟨w.heap.size, 0, none⟩ : Addr).add j) = some u := by
  intro j u h
  have hb : Blk (w.alloc (.cells cs t)) w.heap.size cs.toList t := heap_alloc_new w _
  have e : (⟨w.heap.size, 0, none⟩ : Addr).add j = ⟨w.heap.size, j, none⟩ := by
    unfold Addr.add; split <;> simp_all
  rw [e]
  exact hb.cell h

set_option maxRecDepth 100000 in
set_option maxHeartbeats 1000000 in
theorem lawhx_main (a : Option Addr) (len cap : Nat) (zs : List Int) (v u : Nat) (a' : Option Addr) (len' cap' : Nat) (zs' : List Int) (w : World) (hv : v < 65536) (hu : u < 256)
    (h : len ≤ 524288) (h' : len' ≤ 524288) (h2 : len + len' ≤ 1048576) (hs : SrcB w a len cap zs) (hs' : SrcB w a' len' cap' zs') :
    Calls Try.prog 5 #[.slice a len cap, .int .u16 v, .int .u8 u, .slice a' len' cap'] w fun e w' => e = .returned (.bool true) ∧ Upto (fun k => w.heap.size ≤ k) w w' := by
  have hb : Hid (decide (len + len' ≤ 1048576) = true) := decide_eq_true h2
  have hm : len ≤ maxLen := by unfold maxLen; omega
  have hm' : len' ≤ maxLen := by unfold maxLen; omega
  have HS : Hid (SrcB w a len cap zs) := hs
  have HS' : Hid (SrcB w a' len' cap' zs') := hs'
  clear hs hs'
  obtain ⟨i5, hi5, i5z, i5s, i5b⟩ := info_parts info5h
  have I1 : Hid (Try.prog.info? 5 = some i5) := hi5
  have I2 : Hid (i5.zero = some (.int .u8 0)) := i5z
  have I3 : Hid (i5.size = 1) := i5s
  have I4 : Hid (i5.bytes * (len + 6 + len') ≤ 281474976710656) := by show i5.bytes * (len + 6 + len') ≤ 281474976710656; rw [i5b]; omega
  clear hi5 i5z i5s i5b
  have hN : len + 6 + len' ≤ maxLen := by unfold maxLen; omega
  go_enter Try.func5, Try.ntmps5
  go_wp2_with (first
    | (go_at_call 15; refine (bytes15 _ _ _ _ _ _ _ _ _ hm hm' true hb).mono ?_; rintro e w' ⟨rfl, rfl⟩)
    | (with_reducible (show wpList _ _ _ (Oper.mk (some 33) _ _ _ _ _ :: _) _ _); refine wpList_make_own w rfl _ _ 27 rfl w.heap.size 5 i5 (.int .u8 0) 1 Try.underlying27 I1.out I2.out I3.out .i64 .i64 _ (len + 6 + len') rfl rfl (by omega) I4.out hN (Nat.le_refl _) ?_; intro w1 ho1 hg1
       have HO1 : Hid (w1.ownsRow w.heap.size 5 1 (.slice (some ⟨w.heap.size, 0, none⟩) 0 (len + 6 + len')) 0 []) := ho1
       have HU1 : Hid (Upto (fun k => w.heap.size ≤ k) w w1) := (Upto.ofGrown hg1).mono (fun k _ h => by cases h)
       clear ho1 hg1)
    | (with_reducible (show wpList _ _ _ (Oper.mk (some 36) _ _ _ _ _ :: _) _ _); refine wpList_append_fits_any w1 rfl (.tmp 34) (.tmp 35) 27 rfl w.heap.size 5 i5 1 Try.underlying27 I1.out I3.out w.heap.size 0 (len + 6 + len') [] rfl HO1.out a len cap (bytesOf zs len) rfl (by rw [srcb_len HS.out]; omega) (srcb_none HS.out) (srcb_cells HS.out HU1.out) (bytesOf_one zs len) (by omega) ?_; intro w2 ho2 hg2
       have HO2 : Hid (w2.ownsRow w.heap.size 5 1 (.slice (some ⟨w.heap.size, 0, none⟩) len (len + 6 + len')) len (bytesOf zs len)) := by rw [Nat.zero_add, List.nil_append] at ho2; exact ho2
       have HU2 : Hid (Upto (fun k => w.heap.size ≤ k) w w2) := HU1.out.trans ((Upto.ofGrown hg2).mono (fun k _ h => by cases h; exact Nat.le_refl _))
       rw [Nat.zero_add]
       clear ho2 hg2)
    | (with_reducible (show wpList _ _ _ (Oper.mk (some 39) _ _ _ _ _ :: _) _ _); (refine wpList_append_fits _ rfl (.tmp 37) (.tmp 38) 27 rfl w.heap.size 5 i5 1 Try.underlying27 I1.out I3.out w.heap.size len (len + 6 + len') (bytesOf zs len) rfl (HO2.out.alloc _) ⟨w2.heap.size, 0, none⟩ 2 2 [.int .u8 92, .int .u8 117] rfl rfl (new_cells w2 #[.int .u8 92, .int .u8 117] 5) one2 (by omega) ?_); intro w3 ho3 hg3
       have HO3 : Hid (w3.ownsRow w.heap.size 5 1 (.slice (some ⟨w.heap.size, 0, none⟩) (len + 2 + 0) (len + 6 + len')) (len + 2 + 0) (bytesOf zs len ++ [.int .u8 92, .int .u8 117] ++ hexs v u 0)) := by rw [show hexs v u 0 = [] from rfl, List.append_nil]; exact ho3
       have HU3 : Hid (Upto (fun k => w.heap.size ≤ k) w w3) := (HU2.out.alloc _).trans ((Upto.ofGrown hg3).mono (fun k _ h => by cases h; exact Nat.le_refl _))
       clear ho3 hg3 HO2 HU2))
  go_loopw [9, 10] (fun b i wr => ∃ k : Nat, k ≤ 4 ∧ b = .slice (some ⟨w.heap.size, 0, none⟩) (len + 2 + k) (len + 6 + len') ∧ i = .int .i64 k ∧ Hid (wr.ownsRow w.heap.size 5 1 (.slice (some ⟨w.heap.size, 0, none⟩) (len + 2 + k) (len + 6 + len')) (len + 2 + k) (bytesOf zs len ++ [.int .u8 92, .int .u8 117] ++ hexs v u k)) ∧ Hid (Upto (fun k => w.heap.size ≤ k) w wr)) (fun b i wr => 4 - (intOf i).toNat)
  case atStart => exact ⟨0, by omega, rfl, rfl, HO3, HU3⟩
  case round =>
    obtain ⟨k, hk, rfl, rfl, HO, HU⟩ := hrel
    match k, hk with
    | 0, _ =>
      obtain ⟨d, hde⟩ : ∃ d, d = dgOf v 0 := ⟨_, rfl⟩
      obtain ⟨b, hbe⟩ : ∃ b, b = upOf u 0 := ⟨_, rfl⟩
      have hd1 : bits .and .i64 ((v : Int) / 4096) 15 = (d : Int) := by rw [hde]; exact dig0 v hv
      have hb1 : (bits .and .u8 ((u : Int)) 1 == 1) = b := by rw [hbe]; exact upp0 u hu
      have hd16 : d < 16 := by rw [hde]; exact dgOf_lt v 0
      have HE : Hid (hexs v u (0 + 1) = hexs v u 0 ++ [Value.int .u8 (hexd d b)]) := by rw [hde, hbe]; exact hexs_succ v u 0
      clear hde hbe
      generalize hexs v u 0 = ys at HO HE
      go_wp2_with (first
        | (go_at_call 16; (refine (hexDigit_any d b _ hd16).mono ?_; rintro e w' ⟨rfl, rfl⟩))
        | (with_reducible (show wpList _ _ _ (Oper.mk (some 63) _ _ _ _ _ :: _) _ _); (refine wpList_append_fits _ rfl (.tmp 53) (.tmp 62) 27 rfl w.heap.size 5 i5 1 Try.underlying27 I1.out I3.out w.heap.size (len + 2 + 0) (len + 6 + len') (bytesOf zs len ++ [.int .u8 92, .int .u8 117] ++ ys) rfl (HO.out.alloc _) ⟨wr.heap.size, 0, none⟩ 1 1 [.int .u8 (hexd d b)] rfl rfl (new_cells wr #[.int .u8 (hexd d b)] 5) (one1 _) (by omega) ?_; intro w4 ho4 hg4)
           have HO4 : Hid (w4.ownsRow w.heap.size 5 1 (.slice (some ⟨w.heap.size, 0, none⟩) (len + 2 + (0 + 1)) (len + 6 + len')) (len + 2 + (0 + 1)) (bytesOf zs len ++ [.int .u8 92, .int .u8 117] ++ hexs v u (0 + 1))) := by rw [HE.out, ← List.append_assoc]; exact ho4
           have HU4 : Hid (Upto (fun k => w.heap.size ≤ k) w w4) := (HU.out.alloc _).trans ((Upto.ofGrown hg4).mono (fun k _ h => by cases h; exact Nat.le_refl _))
           clear ho4 hg4))
      go_roundw
      case rel => exact ⟨0 + 1, by omega, rfl, by go_num, HO4, HU4⟩
      case measure => simp [intOf]
    | 1, _ =>
      obtain ⟨d, hde⟩ : ∃ d, d = dgOf v 1 := ⟨_, rfl⟩
      obtain ⟨b, hbe⟩ : ∃ b, b = upOf u 1 := ⟨_, rfl⟩
      have hd1 : bits .and .i64 ((v : Int) / 256) 15 = (d : Int) := by rw [hde]; exact dig1 v hv
      have hb1 : (bits .and .u8 ((u : Int) / 2) 1 == 1) = b := by rw [hbe]; exact upp1 u hu
      have hd16 : d < 16 := by rw [hde]; exact dgOf_lt v 1
      have HE : Hid (hexs v u (1 + 1) = hexs v u 1 ++ [Value.int .u8 (hexd d b)]) := by rw [hde, hbe]; exact hexs_succ v u 1
      clear hde hbe
      generalize hexs v u 1 = ys at HO HE
      go_wp2_with (first
        | (go_at_call 16; (refine (hexDigit_any d b _ hd16).mono ?_; rintro e w' ⟨rfl, rfl⟩))
        | (with_reducible (show wpList _ _ _ (Oper.mk (some 63) _ _ _ _ _ :: _) _ _); (refine wpList_append_fits _ rfl (.tmp 53) (.tmp 62) 27 rfl w.heap.size 5 i5 1 Try.underlying27 I1.out I3.out w.heap.size (len + 2 + 1) (len + 6 + len') (bytesOf zs len ++ [.int .u8 92, .int .u8 117] ++ ys) rfl (HO.out.alloc _) ⟨wr.heap.size, 0, none⟩ 1 1 [.int .u8 (hexd d b)] rfl rfl (new_cells wr #[.int .u8 (hexd d b)] 5) (one1 _) (by omega) ?_; intro w4 ho4 hg4)
           have HO4 : Hid (w4.ownsRow w.heap.size 5 1 (.slice (some ⟨w.heap.size, 0, none⟩) (len + 2 + (1 + 1)) (len + 6 + len')) (len + 2 + (1 + 1)) (bytesOf zs len ++ [.int .u8 92, .int .u8 117] ++ hexs v u (1 + 1))) := by rw [HE.out, ← List.append_assoc]; exact ho4
           have HU4 : Hid (Upto (fun k => w.heap.size ≤ k) w w4) := (HU.out.alloc _).trans ((Upto.ofGrown hg4).mono (fun k _ h => by cases h; exact Nat.le_refl _))
           clear ho4 hg4))
      go_roundw
      case rel => exact ⟨1 + 1, by omega, rfl, by go_num, HO4, HU4⟩
      case measure => simp [intOf]
    | 2, _ =>
      obtain ⟨d, hde⟩ : ∃ d, d = dgOf v 2 := ⟨_, rfl⟩
      obtain ⟨b, hbe⟩ : ∃ b, b = upOf u 2 := ⟨_, rfl⟩
      have hd1 : bits .and .i64 ((v : Int) / 16) 15 = (d : Int) := by rw [hde]; exact dig2 v hv
      have hb1 : (bits .and .u8 ((u : Int) / 4) 1 == 1) = b := by rw [hbe]; exact upp2 u hu
      have hd16 : d < 16 := by rw [hde]; exact dgOf_lt v 2
      have HE : Hid (hexs v u (2 + 1) = hexs v u 2 ++ [Value.int .u8 (hexd d b)]) := by rw [hde, hbe]; exact hexs_succ v u 2
      clear hde hbe
      generalize hexs v u 2 = ys at HO HE
      go_wp2_with (first
        | (go_at_call 16; (refine (hexDigit_any d b _ hd16).mono ?_; rintro e w' ⟨rfl, rfl⟩))
        | (with_reducible (show wpList _ _ _ (Oper.mk (some 63) _ _ _ _ _ :: _) _ _); (refine wpList_append_fits _ rfl (.tmp 53) (.tmp 62) 27 rfl w.heap.size 5 i5 1 Try.underlying27 I1.out I3.out w.heap.size (len + 2 + 2) (len + 6 + len') (bytesOf zs len ++ [.int .u8 92, .int .u8 117] ++ ys) rfl (HO.out.alloc _) ⟨wr.heap.size, 0, none⟩ 1 1 [.int .u8 (hexd d b)] rfl rfl (new_cells wr #[.int .u8 (hexd d b)] 5) (one1 _) (by omega) ?_; intro w4 ho4 hg4)
           have HO4 : Hid (w4.ownsRow w.heap.size 5 1 (.slice (some ⟨w.heap.size, 0, none⟩) (len + 2 + (2 + 1)) (len + 6 + len')) (len + 2 + (2 + 1)) (bytesOf zs len ++ [.int .u8 92, .int .u8 117] ++ hexs v u (2 + 1))) := by rw [HE.out, ← List.append_assoc]; exact ho4
           have HU4 : Hid (Upto (fun k => w.heap.size ≤ k) w w4) := (HU.out.alloc _).trans ((Upto.ofGrown hg4).mono (fun k _ h => by cases h; exact Nat.le_refl _))
           clear ho4 hg4))
      go_roundw
      case rel => exact ⟨2 + 1, by omega, rfl, by go_num, HO4, HU4⟩
      case measure => simp [intOf]
    | 3, _ =>
      obtain ⟨d, hde⟩ : ∃ d, d = dgOf v 3 := ⟨_, rfl⟩
      obtain ⟨b, hbe⟩ : ∃ b, b = upOf u 3 := ⟨_, rfl⟩
      have hd1 : bits .and .i64 ((v : Int)) 15 = (d : Int) := by rw [hde]; exact dig3 v hv
      have hb1 : (bits .and .u8 ((u : Int) / 8) 1 == 1) = b := by rw [hbe]; exact upp3 u hu
      have hd16 : d < 16 := by rw [hde]; exact dgOf_lt v 3
      have HE : Hid (hexs v u (3 + 1) = hexs v u 3 ++ [Value.int .u8 (hexd d b)]) := by rw [hde, hbe]; exact hexs_succ v u 3
      clear hde hbe
      generalize hexs v u 3 = ys at HO HE
      go_wp2_with (first
        | (go_at_call 16; (refine (hexDigit_any d b _ hd16).mono ?_; rintro e w' ⟨rfl, rfl⟩))
        | (with_reducible (show wpList _ _ _ (Oper.mk (some 63) _ _ _ _ _ :: _) _ _); (refine wpList_append_fits _ rfl (.tmp 53) (.tmp 62) 27 rfl w.heap.size 5 i5 1 Try.underlying27 I1.out I3.out w.heap.size (len + 2 + 3) (len + 6 + len') (bytesOf zs len ++ [.int .u8 92, .int .u8 117] ++ ys) rfl (HO.out.alloc _) ⟨wr.heap.size, 0, none⟩ 1 1 [.int .u8 (hexd d b)] rfl rfl (new_cells wr #[.int .u8 (hexd d b)] 5) (one1 _) (by omega) ?_; intro w4 ho4 hg4)
           have HO4 : Hid (w4.ownsRow w.heap.size 5 1 (.slice (some ⟨w.heap.size, 0, none⟩) (len + 2 + (3 + 1)) (len + 6 + len')) (len + 2 + (3 + 1)) (bytesOf zs len ++ [.int .u8 92, .int .u8 117] ++ hexs v u (3 + 1))) := by rw [HE.out, ← List.append_assoc]; exact ho4
           have HU4 : Hid (Upto (fun k => w.heap.size ≤ k) w w4) := (HU.out.alloc _).trans ((Upto.ofGrown hg4).mono (fun k _ h => by cases h; exact Nat.le_refl _))
           clear ho4 hg4))
      go_roundw
      case rel => exact ⟨3 + 1, by omega, rfl, by go_num, HO4, HU4⟩
      case measure => simp [intOf]
    | 4, _ =>
      go_wp2_with (first
        | (with_reducible (show wpList _ _ _ (Oper.mk (some 66) _ _ _ _ _ :: _) _ _); (refine wpList_append_fits_any wr rfl (.tmp 64) (.tmp 65) 27 rfl w.heap.size 5 i5 1 Try.underlying27 I1.out I3.out w.heap.size (len + 2 + 4) (len + 6 + len') (bytesOf zs len ++ [.int .u8 92, .int .u8 117] ++ hexs v u 4) rfl HO.out a' len' cap' (bytesOf zs' len') rfl (by rw [srcb_len HS'.out]; omega) (srcb_none HS'.out) (srcb_cells HS'.out HU.out) (bytesOf_one zs' len') (by omega) ?_; intro w5 ho5 hg5)
           have HO5 : Hid (w5.ownsRow w.heap.size 5 1 (.slice (some ⟨w.heap.size, 0, none⟩) (len + 2 + 4 + len') (len + 6 + len')) (len + 2 + 4 + len') (bytesOf zs len ++ [.int .u8 92, .int .u8 117] ++ hexs v u 4 ++ bytesOf zs' len')) := ho5
           have HU5 : Hid (Upto (fun k => w.heap.size ≤ k) w w5) := HU.out.trans ((Upto.ofGrown hg5).mono (fun k _ h => by cases h; exact Nat.le_refl _))
           clear ho5 hg5))
      have HL : Hid ((bytesOf zs len).length = len) := srcb_len HS.out
      refine (zzhex4_at w.heap.size (len + 2 + 4 + len') (len + 6 + len') len (dgOf v) (upOf u) w5 (by omega) (by omega) (by omega) ?_ ?_ ?_ (fun k _ => dgOf_lt v k)).mono ?_
      · rw [HO5.out.cellAt len (by omega)]; exact row0 _ _ _ _ HL.out
      · rw [HO5.out.cellAt (len + 1) (by omega)]; exact row1 _ _ _ _ HL.out
      · intro k hk
        rw [HO5.out.cellAt (len + 2 + k) (by omega)]; exact rowk _ _ _ _ HL.out k hk
      · rintro e w6 ⟨rfl, hu6⟩
        have HU6 : Hid (Upto (fun k => w.heap.size ≤ k) w w6) := HU5.out.trans (hu6.mono (fun k _ h => h.elim))
        rw [accH_v v hv]
        clear hu6
        go_wp2
        go_ret
        exact ⟨rfl, HU6.out⟩

/-- The law's walk. -/
theorem lawhx (a : Option Addr) (len cap : Nat) (zs : List Int) (v u : Int) (a' : Option Addr) (len' cap' : Nat) (zs' : List Int) (w : World) (hv : 0 ≤ v ∧ v ≤ 65535) (hu : 0 ≤ u ∧ u ≤ 255)
    (h : len ≤ maxLen) (h' : len' ≤ maxLen) (hs : SrcB w a len cap zs) (hs' : SrcB w a' len' cap' zs') :
    Calls Try.prog 5 #[.slice a len cap, .int .u16 v, .int .u8 u, .slice a' len' cap'] w fun e w' => e = .returned (.bool true) ∧ Upto (fun k => w.heap.size ≤ k) w w' := by
  by_cases hout : 1048576 < len + len' ∨ 524288 < len ∨ 524288 < len'
  · refine (lawhx_out a len cap v u a' len' cap' w h h' hout).mono ?_
    rintro e w' ⟨rfl, rfl⟩
    exact ⟨rfl, Upto.refl _ _⟩
  · obtain ⟨n, rfl⟩ := Int.eq_ofNat_of_zero_le (a := v) (by omega)
    obtain ⟨m, rfl⟩ := Int.eq_ofNat_of_zero_le (a := u) (by omega)
    exact lawhx_main a len cap zs n m a' len' cap' zs' w (by omega) (by omega) (by omega) (by omega) (by omega) hs hs'
end Go.Proofs.Qxb6601053a
