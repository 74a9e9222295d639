/-
  binaryDiagram.node: 'd.depth = append(d.depth, 1+max(d.depth[low], d.depth[high]))' by itself: one region that draws its order.
-/
import Derived.Test.Qxb6600921aNd
import Derived.Test.Qxb6600921aAp
namespace Go.Proofs.Qxb6600921a
open Go.RowKit
set_option linter.unusedVariables false

/-- A region of a body, by its number. -/
def regionOf (n : Nat) : Code → Option Code
  | .region i ops b => if i = n then some (.region i ops b) else none
  | .loop c => regionOf n c
  | .seq a b => match regionOf n a with
    | some c => some c
    | none => regionOf n b
  | .block _ c => regionOf n c
  | .scope c => regionOf n c
  | .cond _ a b => match regionOf n a with
    | some c => some c
    | none => regionOf n b
  | _ => none

theorem info21' : (Try.prog.info? 21).map (fun i => (i.zero, i.size, i.bytes)) = some (some (.int .i32 0), 1, 4) := by kernel_rfl

set_option maxRecDepth 1000000 in
set_option maxHeartbeats 4000000 in
theorem reg13 (c : Code) (hc : Try.f35.body.bind (regionOf 13) = some c) (D gD n cD base l h : Nat) (v0 v1 : Value) (dp : List Int) (pl ph : Int) (wc : World)
    (HD2 : Hid (Blk wc D [v0, v1, .slice (some ⟨gD, 0, none⟩) n cD] 52)) (HOD : Hid (wc.ownsRow base 21 1 (.slice (some ⟨gD, 0, none⟩) n cD) n (dp.map (Value.int .i32))))
    (el : wc.cell? ⟨gD, l, none⟩ = some (.int .i32 pl)) (eh : wc.cell? ⟨gD, h, none⟩ = some (.int .i32 ph)) (hl : l < n) (hh : h < n) (hn : n ≤ 10000) (hbase : base ≤ D) (hDg : D ≠ gD)
    {x1 x4 x5 x6 x7 x8 x9 x10 x11 x12 x13 x14 x15 x16 x17 x18 x19 x20 x21 x22 x23 x24 x25 x26 x27 x28 x29 x30 x31 x32 x33 x34 x35 x36 x37 x38 x39 x40 x41 x42 x43 x44 x45 x46 x47 x48 x49 x50 x51 x52 x53 x54 x55 x56 x57 x58 x59 x60 x61 x62 x63 x64 x65 x66 x67 x68 x69 x70 x71 x72 x73 x74 x75 x76 x77 x78 x79 x80 x81 x82 x83 x84 x85 x86 x87 x88 x89 x90 x91 x92 x93 x94 x95 x96 x97 x98 x99 x100 x101 x102 x103 x104 x105 x106 x107 x108 x109 x110 x111 x112 x113 x114 x115 x116 x117 x118 x119 x120 x121 x122 x123 x124 x125 x126 x127 x128 x129 x130 x131 x132 x133 x134 x135 x136 x137 x138 x139 x140 x141 x142 x143 x144 x145 x146 x147 x148 x149 x150 x151 x152 x153 x154 x155 x156 x157 x158 x159 x160 x161 x162 x163 x164 x165 x166 x167 x168 x169 x170 x171 x172 x173 x174 x175 x176 x177 x178 x179 x180 : Value} (K : Act → World → Prop)
    (hK : ∀ (y80 y81 y82 y83 y84 y85 y86 y87 y88 y89 y90 y91 y92 y93 y94 y95 y96 y97 y98 y99 y100 y101 y102 y103 y104 : Value) (g3 cap3 : Nat) (q : Int) (w' : World), Upto (fun k => k = D ∨ k = gD) wc w' → Blk w' D [v0, v1, .slice (some ⟨g3, 0, none⟩) (n + 1) cap3] 52 →
      w'.ownsRow base 21 1 (.slice (some ⟨g3, 0, none⟩) (n + 1) cap3) (n + 1) ((dp ++ [q]).map (Value.int .i32)) → (g3 = gD ∨ wc.heap.size < g3) → K ⟨#[.pointer (some ⟨D, 0, none⟩), x1, .int .i32 l, .int .i32 h, x4, x5, x6, x7, x8, x9, x10, x11, x12, x13, x14, x15, x16, x17, x18, x19, x20, x21, x22, x23, x24, x25, x26, x27, x28, x29, x30, x31, x32, x33, x34, x35, x36, x37, x38, x39, x40, x41, x42, x43, x44, x45, x46, x47, x48, x49, x50, x51, x52, x53, x54, x55, x56, x57, x58, x59, x60, x61, x62, x63, x64, x65, x66, x67, x68, x69, x70, x71, x72, x73, x74, x75, x76, x77, x78, x79, y80, y81, y82, y83, y84, y85, y86, y87, y88, y89, y90, y91, y92, y93, y94, y95, y96, y97, y98, y99, y100, y101, y102, y103, y104, x105, x106, x107, x108, x109, x110, x111, x112, x113, x114, x115, x116, x117, x118, x119, x120, x121, x122, x123, x124, x125, x126, x127, x128, x129, x130, x131, x132, x133, x134, x135, x136, x137, x138, x139, x140, x141, x142, x143, x144, x145, x146, x147, x148, x149, x150, x151, x152, x153, x154, x155, x156, x157, x158, x159, x160, x161, x162, x163, x164, x165, x166, x167, x168, x169, x170, x171, x172, x173, x174, x175, x176, x177, x178, x179, x180], []⟩ w') :
    c.wp Try.prog (Exit.then K (fun _ _ _ => False)) ⟨#[.pointer (some ⟨D, 0, none⟩), x1, .int .i32 l, .int .i32 h, x4, x5, x6, x7, x8, x9, x10, x11, x12, x13, x14, x15, x16, x17, x18, x19, x20, x21, x22, x23, x24, x25, x26, x27, x28, x29, x30, x31, x32, x33, x34, x35, x36, x37, x38, x39, x40, x41, x42, x43, x44, x45, x46, x47, x48, x49, x50, x51, x52, x53, x54, x55, x56, x57, x58, x59, x60, x61, x62, x63, x64, x65, x66, x67, x68, x69, x70, x71, x72, x73, x74, x75, x76, x77, x78, x79, x80, x81, x82, x83, x84, x85, x86, x87, x88, x89, x90, x91, x92, x93, x94, x95, x96, x97, x98, x99, x100, x101, x102, x103, x104, x105, x106, x107, x108, x109, x110, x111, x112, x113, x114, x115, x116, x117, x118, x119, x120, x121, x122, x123, x124, x125, x126, x127, x128, x129, x130, x131, x132, x133, x134, x135, x136, x137, x138, x139, x140, x141, x142, x143, x144, x145, x146, x147, x148, x149, x150, x151, x152, x153, x154, x155, x156, x157, x158, x159, x160, x161, x162, x163, x164, x165, x166, x167, x168, x169, x170, x171, x172, x173, x174, x175, x176, x177, x178, x179, x180], []⟩ wc := by
  obtain rfl : _ = c := Option.some.inj hc
  have HK : Hid (∀ (y80 y81 y82 y83 y84 y85 y86 y87 y88 y89 y90 y91 y92 y93 y94 y95 y96 y97 y98 y99 y100 y101 y102 y103 y104 : Value) (g3 cap3 : Nat) (q : Int) (w' : World), Upto (fun k => k = D ∨ k = gD) wc w' → Blk w' D [v0, v1, .slice (some ⟨g3, 0, none⟩) (n + 1) cap3] 52 →
      w'.ownsRow base 21 1 (.slice (some ⟨g3, 0, none⟩) (n + 1) cap3) (n + 1) ((dp ++ [q]).map (Value.int .i32)) → (g3 = gD ∨ wc.heap.size < g3) → K ⟨#[.pointer (some ⟨D, 0, none⟩), x1, .int .i32 l, .int .i32 h, x4, x5, x6, x7, x8, x9, x10, x11, x12, x13, x14, x15, x16, x17, x18, x19, x20, x21, x22, x23, x24, x25, x26, x27, x28, x29, x30, x31, x32, x33, x34, x35, x36, x37, x38, x39, x40, x41, x42, x43, x44, x45, x46, x47, x48, x49, x50, x51, x52, x53, x54, x55, x56, x57, x58, x59, x60, x61, x62, x63, x64, x65, x66, x67, x68, x69, x70, x71, x72, x73, x74, x75, x76, x77, x78, x79, y80, y81, y82, y83, y84, y85, y86, y87, y88, y89, y90, y91, y92, y93, y94, y95, y96, y97, y98, y99, y100, y101, y102, y103, y104, x105, x106, x107, x108, x109, x110, x111, x112, x113, x114, x115, x116, x117, x118, x119, x120, x121, x122, x123, x124, x125, x126, x127, x128, x129, x130, x131, x132, x133, x134, x135, x136, x137, x138, x139, x140, x141, x142, x143, x144, x145, x146, x147, x148, x149, x150, x151, x152, x153, x154, x155, x156, x157, x158, x159, x160, x161, x162, x163, x164, x165, x166, x167, x168, x169, x170, x171, x172, x173, x174, x175, x176, x177, x178, x179, x180], []⟩ w') := hK
  clear hc hK
  conv => arg 2; whnf
  have hgDc : gD < wc.heap.size := (HOD.out.lt gD rfl).2
  have hDc : D < wc.heap.size := HD2.out.lt
  have d2 : wc.cell? ⟨D, 2, none⟩ = some (.slice (some ⟨gD, 0, none⟩) n cD) := HD2.out.cell rfl
  have f2 := HD2.out.frozen 2
  have hl0 : (0 : Int) ≤ (l : Int) := by omega
  have hh0 : (0 : Int) ≤ (h : Int) := by omega
  have hln : (l : Int) < (n : Int) := by omega
  have hhn : (h : Int) < (n : Int) := by omega
  obtain ⟨i21, hi21, hz0, hz1, hz2⟩ := info_parts info21'
  have HI21 : Hid (Try.prog.info? 21 = some i21) := hi21
  have HZ0 : Hid (i21.zero = some (.int .i32 0)) := hz0
  have HZ1 : Hid (i21.size = 1) := hz1
  have HZ2 : Hid (i21.bytes = 4) := hz2
  clear hi21 hz0 hz1 hz2
  go_region_law (refine step_append_keeps _ rfl (.tmp 84) (.tmp 101) 22 (by rfl) base 21 i21 _ 1 4 Try.underlying22 HI21.out HZ0.out HZ1.out HZ2.out rfl (by decide) gD n cD (dp.map (Value.int .i32)) (by rfl) (by first | exact HOD.out.alloc _ | exact (HOD.out.alloc _).drew) ⟨wc.heap.size, 0, none⟩ 1 1 _ (by rfl) (by rfl) (World.news_of_block (heap_alloc_new _ _)) (by simp [Value.oneCell']) (by omega) (by unfold maxLen; omega) (by omega) (by simp; omega) ?_; intro g3 cap3 w3 hown3 hgrow3 hat3 hlt3 hkeep3; have HD3 : Hid (Blk w3 D [v0, v1, .slice (some ⟨gD, 0, none⟩) n cD] 52) := (Upto.ofGrown hgrow3).blk (HD2.out.alloc _) (by simp; omega); have q0 : w3.cell? ⟨D, 2, none⟩ = some (.slice (some ⟨gD, 0, none⟩) n cD) := HD3.out.cell rfl; have q1 := HD3.out.frozen 2)
  all_goals
    have hgr : Upto (fun k => k = D ∨ k = gD) wc w3 := (((Upto.refl (fun k => k = D ∨ k = gD) wc).alloc _).drew).trans ((Upto.ofGrown hgrow3).mono (fun k _ e => Or.inr (by simpa using e.symm)))
    have hg3 : g3 = gD ∨ wc.heap.size + 1 ≤ g3 := by simpa using hat3
    show K _ _
    first
      | (refine HK.out _ _ _ _ _ _ _ _ _ _ _ _ _ _ _ _ _ _ _ _ _ _ _ _ _ g3 cap3 (IntKind.i32.wrap (1 + if pl < ph then ph else pl)) _ (hgr.setCell (p := ⟨D, 2, none⟩) (fun _ => Or.inl rfl) _) (HD3.out.set 2 _) ?_ (by omega); rw [List.map_append]; exact (((Upto.refl (fun k => k = D) w3).setCell (p := ⟨D, 2, none⟩) (fun _ => rfl) _).owns hown3 (by omega)))
      | (refine HK.out _ _ _ _ _ _ _ _ _ _ _ _ _ _ _ _ _ _ _ _ _ _ _ _ _ g3 cap3 ?q _ (hgr.setCell (p := ⟨D, 2, none⟩) (fun _ => Or.inl rfl) _) (HD3.out.set 2 _) ?_ (by omega); rw [List.map_append]; exact (((Upto.refl (fun k => k = D) w3).setCell (p := ⟨D, 2, none⟩) (fun _ => rfl) _).owns hown3 (by omega)))
end Go.Proofs.Qxb6600921a
