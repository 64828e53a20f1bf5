/-
  LawS1836BRoutes: the walk, its part before the last: the check of the log and of the frame to the parent.
-/
import Derived.Test.YbulkakzqTailI
import Derived.Deep.CutBlock
namespace Go.Proofs.Ybulkakzq.LawB
open Go.RowKit Wire Blocks RegSteps Still Dec Votes Callees Names Box Fam Sp Sorts Split Rd Route New Setup SortB CheckB
open Go.Shelf
set_option linter.unusedVariables false
set_option maxRecDepth 100000

set_option maxHeartbeats 64000000 in
theorem sent_any {ta : Option Addr} {n tcap : Nat} {q0 q1 q2 q3 : Nat} {g0 g1 g2 g3 child fp : Bool} {s : ByteArray} {a b : Int} {ab : Bool} {st : Int} {w : World} {gb nb ib : Nat} {P M : Nat → Nat} {db : Nat} {w7 : World} {l : List ByteArray} {r : ByteArray → Option Nat} {T : List T3} {nT nU : Nat} {ap an au al : Option Addr} {capp capn capu capl : Nat} {w10 : World} {uv : Value} {G : List G3} {ob B9 : Nat} {x10 x13 x14 x15 x16 x17 x18 x19 x20 x27 x28 x29 x30 x35 x36 x37 x38 x39 x40 x44 x45 x46 x47 x48 x49 x50 x51 x52 x53 x54 x55 x56 x57 x58 x59 x60 x61 x62 x63 x64 x65 x66 x67 x68 x69 x70 x71 x72 x73 x74 x75 x76 x77 x78 x79 x80 x81 x82 x83 x84 x85 x86 x87 x88 x89 x90 x91 x92 x93 x94 x95 x96 x97 x98 x99 x100 x101 x102 x103 x104 x105 x106 x107 x108 x109 x110 x111 x112 x113 x114 x115 x116 x117 x118 x119 x120 x121 x122 x123 x124 x125 x126 x127 x128 x129 x130 x131 x132 x133 x134 x135 x136 x137 x138 x139 x140 x141 x142 x143 x144 x145 x146 x147 x148 x149 x150 x151 x152 x153 x154 x155 x156 x157 x158 x159 x160 x161 x162 x163 x164 x165 x166 x167 x168 x169 x170 x171 x172 x173 x174 x175 x176 x177 x178 x179 x180 x181 x182 x183 x184 x185 x186 x187 x188 x189 x190 x191 x192 x193 x194 x195 x196 x197 x198 x199 x200 x201 x202 x203 x204 x205 x206 x207 x208 x209 x210 x211 x212 x213 x214 x215 x216 x217 x218 x219 x220 x221 x222 x223 x224 x225 x226 x227 x228 x229 x230 x231 x232 x233 x234 x235 x236 x237 x238 x239 x240 x241 x242 x243 x244 x245 x246 x247 x248 x249 x250 x251 x252 x253 x254 x255 x256 x257 x258 x259 x260 x261 x262 x263 x264 x265 x266 x267 x268 x269 x270 x271 x272 x273 x274 x275 x276 x277 x278 x279 x280 x281 x282 x283 x284 x285 x286 x287 x288 x289 x290 x291 x292 x293 x294 x295 x296 x297 x298 x299 x300 x301 x302 x303 x304 x305 x306 x307 x308 x309 x310 x311 x312 x313 x314 x315 x316 x317 x318 x319 x320 x321 x322 x323 x324 x325 x326 x327 x328 x329 x330 x331 x332 x333 x334 x335 x336 x337 x338 x339 x340 x341 x342 x343 x344 x345 x346 x347 x348 x349 x350 x351 x352 x353 x354 x355 x356 : Value}
    (ha0 : 0 ≤ a) (ha : a ≤ 18446744073709551615) (hb0 : 0 ≤ b) (hb : b ≤ 18446744073709551615) (h0 : 0 ≤ st) (h1 : st ≤ 18446744073709551615) (hn : n ≤ 1024) (hs : s.size ≤ 1024) (hll : l.length = n) (HNT : Hid (nT = T.length)) (HNU : Hid (nU = (upsL r (child && !fp) l).length))
    (HB : Hid (Base w w10 gb nb ib q0 q1 q2 q3 g0 g1 g2 g3 child s a b)) (HPB : Hid (w10.heap[ib + 1]? = some (Obj.cells (parr P 3) 43 (0, 0)))) (HPK : Hid (∀ (i : Nat), i < 3 → ∃ c, w10.heap[P i]? = some (Obj.cells c 71 (0, 0)) ∧ c[18]? = some (Value.map (some (M i)))))
    (HHP : Hid (w10.ownsRow w7.heap.size 3 1 (.slice ap nT capp) nT (T.map (fun t => Value.int .i64 (t.1 : Int))))) (HHN : Hid (w10.ownsRow w7.heap.size 110 1 (.slice an nT capn) nT (flatT noP T)))
    (HNM : Hid (∀ (j : Nat) (t : T3), T[j]? = some t → w10.ownsRow w7.heap.size 9 1 t.2.1 t.2.2.length (t.2.2.map Value.string)))
    (HVS : Hid (Vs w10 M s a b six (struck (hopsL r l)))) (HT : Hid (hopsT T = hopsL r l)) (HLZ : Hid (∀ x ∈ l, x.size ≤ 10)) (hnT : nT ≤ 1024) (hnU : nU ≤ 1024)
    (HUR : Hid (w10.ownsRow w7.heap.size 9 1 (.slice au nU capu) nU ((upsL r (child && !fp) l).map Value.string)))
    (HGH : Hid (G.map (fun g => (g.1, g.2.2)) = (hopsL r l).map (fun h => (h.1, decZ s a b h.2 ab st)))) (HGL : Hid (G.length = nT))
    (HON : Hid (w10.heap[ob]? = some (onwO uv))) (hob : ob < w10.heap.size) (HLG : Hid (LogS w10 (w.heap.size + 4) B9 (.slice al nT capl) G)) (HUP : Hid (UpOut w10 B9 uv (upsL r (child && !fp) l) (decZ s a b (upsL r (child && !fp) l) ab st)))
    (K9 : Act → World → Prop) (hK9 : ∀ a' w', Code.wp Yba.prog (rt from21) (bodyPost Yba.prog Yba.f4 fun e w' => e = .returned (.bool true) ∧ Below w.heap.size w w') a' w' → K9 a' w') :
    Code.wp Yba.prog (rt (lf from21)) (Exit.then K9 (bodyPost Yba.prog Yba.f4 fun e w' => e = .returned (.bool true) ∧ Below w.heap.size w w')) ⟨#[.slice ta n tcap, .agg #[.int .u8 q0, .int .u8 q1, .int .u8 q2, .int .u8 q3], .agg #[.bool g0, .bool g1, .bool g2, .bool g3], .bool child, .bool fp, .string s, .int .u64 a, .int .u64 b, .bool ab, .int .u64 st, x10, .pointer (some ⟨w.heap.size, 0, none⟩), .pointer (some ⟨w.heap.size + 1, 0, none⟩), x13, x14, x15, x16, x17, x18, x19, x20, .pointer (some ⟨w.heap.size + 1 + 1, 0, none⟩), .pointer (some ⟨w.heap.size + 1 + 1 + 1, 0, none⟩), .pointer (some ⟨w.heap.size + 1 + 1 + 1 + 1, 0, none⟩), .pointer (some ⟨gb, 0, none⟩), .pointer (some ⟨ib, 0, none⟩), .pointer (some ⟨ib + 1, 0, none⟩), x27, x28, x29, x30, .slice (some ⟨db, 0, none⟩) n n, .slice ap nT capp, .slice an nT capn, .slice au nU capu, x35, x36, x37, x38, x39, x40, .pointer (some ⟨ob, 0, none⟩), .bool (decide (0 < nU)), .int .i64 0, x44, x45, x46, x47, x48, x49, x50, x51, x52, x53, x54, x55, x56, x57, x58, x59, x60, x61, x62, x63, x64, x65, x66, x67, x68, x69, x70, x71, x72, x73, x74, x75, x76, x77, x78, x79, x80, x81, x82, x83, x84, x85, x86, x87, x88, x89, x90, x91, x92, x93, x94, x95, x96, x97, x98, x99, x100, x101, x102, x103, x104, x105, x106, x107, x108, x109, x110, x111, x112, x113, x114, x115, x116, x117, x118, x119, x120, x121, x122, x123, x124, x125, x126, x127, x128, x129, x130, x131, x132, x133, x134, x135, x136, x137, x138, x139, x140, x141, x142, x143, x144, x145, x146, x147, x148, x149, x150, x151, x152, x153, x154, x155, x156, x157, x158, x159, x160, x161, x162, x163, x164, x165, x166, x167, x168, x169, x170, x171, x172, x173, x174, x175, x176, x177, x178, x179, x180, x181, x182, x183, x184, x185, x186, x187, x188, x189, x190, x191, x192, x193, x194, x195, x196, x197, x198, x199, x200, x201, x202, x203, x204, x205, x206, x207, x208, x209, x210, x211, x212, x213, x214, x215, x216, x217, x218, x219, x220, x221, x222, x223, x224, x225, x226, x227, x228, x229, x230, x231, x232, x233, x234, x235, x236, x237, x238, x239, x240, x241, x242, x243, x244, x245, x246, x247, x248, x249, x250, x251, x252, x253, x254, x255, x256, x257, x258, x259, x260, x261, x262, x263, x264, x265, x266, x267, x268, x269, x270, x271, x272, x273, x274, x275, x276, x277, x278, x279, x280, x281, x282, x283, x284, x285, x286, x287, x288, x289, x290, x291, x292, x293, x294, x295, x296, x297, x298, x299, x300, x301, x302, x303, x304, x305, x306, x307, x308, x309, x310, x311, x312, x313, x314, x315, x316, x317, x318, x319, x320, x321, x322, x323, x324, x325, x326, x327, x328, x329, x330, x331, x332, x333, x334, x335, x336, x337, x338, x339, x340, x341, x342, x343, x344, x345, x346, x347, x348, x349, x350, x351, x352, x353, x354, x355, x356], []⟩ w10 := by
  have en12 : ∀ args w, (callFunc 12 args).run Yba.prog w = .ok (.enter 12 args) w := enters_of Yba.func12 (by kernel_rfl) rfl
  have en13 : ∀ args w, (callFunc 13 args).run Yba.prog w = .ok (.enter 13 args) w := enters_of Yba.func13 (by kernel_rfl) rfl
  generalize hQ : (bodyPost Yba.prog Yba.f4 fun e w' => e = .returned (.bool true) ∧ Below w.heap.size w w') = Q at hK9 ⊢
  dsimp only [from21, body4, rt, lf, Yba.f4] at hK9 ⊢
  subst hQ
  go_cut [43] from 242 to 273 (fun _ wx => Hid (Below w10.heap.size w10 wx))
  case first => -- STAGE G
    go_wp2_with fail
    go_loopg [43] nT (fun gg s43 wr => ∃ j : Nat, j ≤ nT ∧ nT - j ≤ gg ∧ s43 = .int .i64 j ∧ Hid (Below w10.heap.size w10 wr))
    case atStart => exact ⟨0, by omega, by omega, rfl, Below.refl _ _⟩
    case round =>
      obtain ⟨j, hj, hgg, rfl, hbr⟩ := hrel
      by_cases hlt : j < nT
      · have hltz : (j : Int) < (nT : Int) := by omega
        obtain ⟨t, hjt⟩ : ∃ t, T[j]? = some t := ⟨_, List.getElem?_eq_getElem (by rw [← HNT.out]; exact hlt)⟩
        obtain ⟨hjH, cv, hjG⟩ := hop_entry HT.out HGH.out hjt
        obtain ⟨hn0, hnl, hnx⟩ := hop_names hjH
        simp only at hn0 hnl hnx
        have hn0 : 0 < t.2.2.length := List.length_pos_iff.2 hn0
        obtain ⟨gl, capl', el, E1, E2⟩ := log_cells HLG.out hjG
        simp only at E1 E2
        rw [HGL.out] at el
        simp at el
        obtain ⟨rfl, rfl⟩ := el
        have E0 : w10.cell? ⟨w.heap.size + 1 + 1 + 1 + 1, 0, none⟩ = some (.slice (some ⟨gl, 0, none⟩) nT capl) := (blk_cell (b := w.heap.size + 1 + 1 + 1 + 1) HLG.out.blk 0).trans rfl
        have E0l := blk_lt HLG.out.blk
        have E1l := block_lt_of_cell E1
        have E2l := block_lt_of_cell E2
        obtain ⟨gp, capp', ep, _, E3l, _, _, E3, _⟩ := owns_row HHP.out (by omega)
        simp at ep
        obtain ⟨rfl, rfl⟩ := ep
        have E3 := E3 j (.int .i64 (t.1 : Int)) (by simp [hjt])
        obtain ⟨gn, capn', en, _, E4l, _, _, E4, _⟩ := owns_row HHN.out (by omega)
        simp at en
        obtain ⟨rfl, rfl⟩ := en
        have E4 := E4 j t.2.1 (by have := flat_val (pre := noP) (q := 0) (fun _ => rfl) hjt; simpa using this)
        obtain ⟨gm, capm, em, _, E5l, _, _, E5, _⟩ := owns_row (HNM.out j t hjt) hn0
        rw [em] at E4
        have HE0 : Hid (w10.cell? ⟨w.heap.size + 1 + 1 + 1 + 1, 0, none⟩ = some (.slice (some ⟨gl, 0, none⟩) nT capl)) := E0
        have HE1 : Hid (w10.cell? ⟨gl, j * 2, none⟩ = some (.int .i64 (t.1 : Int))) := E1
        have HE2 : Hid (w10.cell? ⟨gl, j * 2 + 1, none⟩ = some cv) := E2
        have HE3 : Hid (w10.cell? ⟨gp, j, none⟩ = some (.int .i64 (t.1 : Int))) := E3
        have HE4 : Hid (w10.cell? ⟨gn, j, none⟩ = some (.slice (some ⟨gm, 0, none⟩) t.2.2.length capm)) := E4
        have HE5 : Hid (∀ (k : Nat) (y : ByteArray), t.2.2[k]? = some y → w10.cell? ⟨gm, k, none⟩ = some (.string y)) := fun k y hk => E5 k _ (by simp [hk])
        have hnl : t.2.2.length ≤ 1024 := by omega
        have hnz : Hid (∀ x ∈ t.2.2, x.size ≤ 10) := fun x hx => HLZ.out x (hnx x hx).1
        have HCV : Hid (w10.ownsRow B9 5 1 cv (decZ s a b t.2.2 ab st).length (bc (decZ s a b t.2.2 ab st))) := HLG.out.rows _ (List.mem_of_getElem? hjG)
        clear E0 E1 E2 E3 E4 E5 hnx hjH hjG em
        go_upto_region 61 with fail
        go_cut [257] from 248 to 256 (fun s257 wx => s257 = .bool false ∧ Hid (Below w10.heap.size w10 wx))
        case first => -- STAGE G1
          refine wp_region_any (by kernel_rfl) (anyI.any (L := 99) (I := fun w' => Below w10.heap.size w10 w') ?_)
          generalize hwd : ({ heap := wr.heap, tape := wr.tape, drawn := wr.drawn + 1, os := wr.os, output := wr.output } : World) = wd
          have hI : Hid (Below w10.heap.size w10 wd) := by subst hwd; exact hbr.out.drew
          clear hwd
          refine takeI (i := 0) (v := .slice (some ⟨gl, 0, none⟩) nT capl) rfl (by kernel_rfl) (by kernel_rfl) (by kernel_rfl) (by kernel_rfl) (fun _ _ _ h => h) hI.out ⟨by rfl, fun w' h => by have c0 := (h.cell (p := ⟨w.heap.size + 1 + 1 + 1 + 1, 0, none⟩) E0l).trans HE0.out; go_simp⟩ ?_
          refine takeI (i := 1) (v := .int .i64 j) rfl (by kernel_rfl) (by kernel_rfl) (by kernel_rfl) (by kernel_rfl) (fun _ _ _ h => h) hI.out ⟨by rfl, fun w' h => by go_simp⟩ ?_
          refine takeI (i := 2) (v := .pointer (some ⟨gl, j * 2, none⟩)) rfl (by kernel_rfl) (by kernel_rfl) (by kernel_rfl) (by kernel_rfl) (fun _ _ _ h => h) hI.out ⟨by rfl, fun w' h => by go_simp⟩ ?_
          refine takeI (i := 3) (v := .pointer (some ⟨gl, j * 2, none⟩)) rfl (by kernel_rfl) (by kernel_rfl) (by kernel_rfl) (by kernel_rfl) (fun _ _ _ h => h) hI.out ⟨by rfl, fun w' h => by go_simp⟩ ?_
          refine takeI (i := 4) (v := .int .i64 (t.1 : Int)) rfl (by kernel_rfl) (by kernel_rfl) (by kernel_rfl) (by kernel_rfl) (fun _ _ _ h => h) hI.out ⟨by rfl, fun w' h => by have c0 := (h.cell (p := ⟨gl, j * 2, none⟩) E1l).trans HE1.out; go_simp⟩ ?_
          refine takeI (i := 5) (v := .slice (some ⟨gp, 0, none⟩) nT capp) rfl (by kernel_rfl) (by kernel_rfl) (by kernel_rfl) (by kernel_rfl) (fun _ _ _ h => h) hI.out ⟨by rfl, fun w' h => by go_simp⟩ ?_
          refine takeI (i := 6) (v := .int .i64 j) rfl (by kernel_rfl) (by kernel_rfl) (by kernel_rfl) (by kernel_rfl) (fun _ _ _ h => h) hI.out ⟨by rfl, fun w' h => by go_simp⟩ ?_
          refine takeI (i := 7) (v := .pointer (some ⟨gp, j, none⟩)) rfl (by kernel_rfl) (by kernel_rfl) (by kernel_rfl) (by kernel_rfl) (fun _ _ _ h => h) hI.out ⟨by rfl, fun w' h => by go_simp⟩ ?_
          refine takeI (i := 8) (v := .int .i64 (t.1 : Int)) rfl (by kernel_rfl) (by kernel_rfl) (by kernel_rfl) (by kernel_rfl) (fun _ _ _ h => h) hI.out ⟨by rfl, fun w' h => by have c0 := (h.cell (p := ⟨gp, j, none⟩) E3l).trans HE3.out; go_simp⟩ ?_
          refine takeI (i := 9) (v := .bool false) rfl (by kernel_rfl) (by kernel_rfl) (by kernel_rfl) (by kernel_rfl) (fun _ _ _ h => h) hI.out ⟨by rfl, fun w' h => by go_simp⟩ ?_
          refine doneI (by kernel_rfl) ?_ _
          go_wp2
          go_meet
          exact ⟨rfl, hI⟩
        case rest =>
          obtain ⟨rfl, hb61⟩ := hcut
          obtain ⟨we0, hwe0⟩ : ∃ we0, we0 = wc := ⟨_, rfl⟩
          subst hwe0
          go_upto_region 63 with fail
          go_cut [273] from 258 to 272 (fun s273 wx => s273 = .bool false ∧ Hid (Below w10.heap.size w10 wx))
          case first => -- STAGE G2
            refine wp_region_any (by kernel_rfl) (anyI.any (L := 99) (I := fun w' => Below w10.heap.size w10 w') ?_)
            generalize hwd : ({ heap := we0.heap, tape := we0.tape, drawn := we0.drawn + 1, os := we0.os, output := we0.output } : World) = we
            have hI2 : Hid (Below w10.heap.size w10 we) := by subst hwd; exact hb61.out.drew
            clear hwd
            refine takeI (i := 0) (v := .slice (some ⟨gl, 0, none⟩) nT capl) rfl (by kernel_rfl) (by kernel_rfl) (by kernel_rfl) (by kernel_rfl) (fun _ _ _ h => h) hI2.out ⟨by rfl, fun w' h => by have c0 := (h.cell (p := ⟨w.heap.size + 1 + 1 + 1 + 1, 0, none⟩) E0l).trans HE0.out; go_simp⟩ ?_
            refine takeI (i := 1) (v := .int .i64 j) rfl (by kernel_rfl) (by kernel_rfl) (by kernel_rfl) (by kernel_rfl) (fun _ _ _ h => h) hI2.out ⟨by rfl, fun w' h => by go_simp⟩ ?_
            refine takeI (i := 2) (v := .pointer (some ⟨gl, j * 2, none⟩)) rfl (by kernel_rfl) (by kernel_rfl) (by kernel_rfl) (by kernel_rfl) (fun _ _ _ h => h) hI2.out ⟨by rfl, fun w' h => by go_simp⟩ ?_
            refine takeI (i := 3) (v := .pointer (some ⟨gl, j * 2 + 1, none⟩)) rfl (by kernel_rfl) (by kernel_rfl) (by kernel_rfl) (by kernel_rfl) (fun _ _ _ h => h) hI2.out ⟨by rfl, fun w' h => by go_simp⟩ ?_
            refine takeI (i := 4) (v := cv) rfl (by kernel_rfl) (by kernel_rfl) (by kernel_rfl) (by kernel_rfl) (fun _ _ _ h => h) hI2.out ⟨by rfl, fun w' h => by have c0 := (h.cell (p := ⟨gl, j * 2 + 1, none⟩) E2l).trans HE2.out; go_simp⟩ ?_
            refine takeI (i := 5) (v := .agg #[.string s, .int .u64 a, .int .u64 b]) rfl (by kernel_rfl) (by kernel_rfl) (by kernel_rfl) (by kernel_rfl) (fun _ _ _ h => h) hI2.out ⟨by rfl, fun w' h => by have hid0 := h.block _ (blk_lt HB.out.idb); rw [HB.out.idb] at hid0; have c0 := cellLit hid0 0; have c1 := cellLit hid0 1; have c2 := cellLit hid0 2; simp at c0 c1 c2; go_simp⟩ ?_
            refine takeI (i := 6) (v := .slice (some ⟨gn, 0, none⟩) nT capn) rfl (by kernel_rfl) (by kernel_rfl) (by kernel_rfl) (by kernel_rfl) (fun _ _ _ h => h) hI2.out ⟨by rfl, fun w' h => by go_simp⟩ ?_
            refine takeI (i := 7) (v := .int .i64 j) rfl (by kernel_rfl) (by kernel_rfl) (by kernel_rfl) (by kernel_rfl) (fun _ _ _ h => h) hI2.out ⟨by rfl, fun w' h => by go_simp⟩ ?_
            refine takeI (i := 8) (v := .pointer (some ⟨gn, j, none⟩)) rfl (by kernel_rfl) (by kernel_rfl) (by kernel_rfl) (by kernel_rfl) (fun _ _ _ h => h) hI2.out ⟨by rfl, fun w' h => by go_simp⟩ ?_
            refine takeI (i := 9) (v := .slice (some ⟨gm, 0, none⟩) t.2.2.length capm) rfl (by kernel_rfl) (by kernel_rfl) (by kernel_rfl) (by kernel_rfl) (fun _ _ _ h => h) hI2.out ⟨by rfl, fun w' h => by have c0 := (h.cell (p := ⟨gn, j, none⟩) E4l).trans HE4.out; go_simp⟩ ?_
            refine takeI (i := 10) (v := .bool ab) rfl (by kernel_rfl) (by kernel_rfl) (by kernel_rfl) (by kernel_rfl) (fun _ _ _ h => h) hI2.out ⟨by rfl, fun w' h => by go_simp⟩ ?_
            refine takeI (i := 11) (v := .int .u64 st) rfl (by kernel_rfl) (by kernel_rfl) (by kernel_rfl) (by kernel_rfl) (fun _ _ _ h => h) hI2.out ⟨by rfl, fun w' h => by go_simp⟩ ?_
            refine takeI (i := 12) (v := .agg #[.string s, .int .u64 a, .int .u64 b, .slice (some ⟨gm, 0, none⟩) t.2.2.length capm, .bool ab, .int .u64 st]) rfl (by kernel_rfl) (by kernel_rfl) (by kernel_rfl) (by kernel_rfl) (fun _ _ _ h => h) hI2.out ⟨by rfl, fun w' h => by go_simp⟩ ?_
            have hgd : gm < we.heap.size := by have := hI2.out.size; omega
            refine oneI (i := 13) rfl (by kernel_rfl) (fun K hK => ?_)
            refine step_call rfl 13 _ _ rfl #[.agg #[.string s, .int .u64 a, .int .u64 b, .slice (some ⟨gm, 0, none⟩) t.2.2.length capm, .bool ab, .int .u64 st]] (by go_simp) (en13 _ _) (dec_any s a b gm capm t.2.2 ab st ha0 ha hb0 hb h0 h1 _ (by omega) hnl hnz.out hgd (fun k y hk => (hI2.out.cell (p := ⟨gm, k, none⟩) E5l).trans (HE5.out k y hk))) ?_
            rintro e w12 ⟨v2, rfl, hown2, hb2⟩
            have hI3 : Hid (Below w10.heap.size w10 w12) := hI2.out.trans (hb2.mono hI2.out.size)
            refine ⟨v2, rfl, hK _ _ (fun _ => hI3.out) ?_⟩
            clear hK K
            refine oneI (i := 14) rfl (by kernel_rfl) (fun K hK => ?_)
            refine step_call rfl 12 _ _ rfl #[cv, v2] (by go_simp) (en12 _ _) (equal_any cv v2 B9 we.heap.size (decZ s a b t.2.2 ab st).length (decZ s a b t.2.2 ab st) _ (owns_below HCV.out hI3.out) hown2 (dec_pos s a b t.2.2 ab st)) ?_
            rintro e w13 ⟨rfl, rfl⟩
            refine ⟨_, rfl, hK _ _ (fun _ => hI3.out) ?_⟩
            clear hK K hown2 hb2
            refine oneI (i := 15) rfl (by kernel_rfl) (fun K hK => ?_)
            go_simp
            refine hK _ _ (fun _ => hI3.out) ?_
            clear hK K
            refine doneI (by kernel_rfl) ?_ _
            go_wp2
            go_meet
            exact ⟨rfl, hI3⟩
          case rest =>
            obtain ⟨rfl, hb63⟩ := hcut
            go_wp2
            go_roundg (nT - (j + 1))
            case measure => omega
            case rel => exact ⟨j + 1, by omega, Nat.le_refl _, rfl, hb63⟩
      · have hge : ¬ ((j : Int) < (nT : Int)) := by omega
        go_wp2
        go_meet
        exact hbr
  case rest =>
    have hb11 := hcut
    obtain ⟨w11, hw11⟩ : ∃ w11, w11 = wc := ⟨_, rfl⟩
    subst hw11
    go_upto_if 276 with fail
    go_cut [277] from 278 to 304 (fun _ wx => Hid (Below w10.heap.size w10 wx))
    case first => -- STAGE H
      by_cases hU : 0 < nU
      · have hUz : (0 : Int) < (nU : Int) := by omega
        obtain ⟨hne, fv, hO1, hO2⟩ : (upsL r (child && !fp) l) ≠ [] ∧ ∃ fv, w10.ownsRow B9 23 1 uv 1 [fv] ∧ w10.ownsRow B9 5 1 fv (decZ s a b (upsL r (child && !fp) l) ab st).length (bc (decZ s a b (upsL r (child && !fp) l) ab st)) := by
          rcases HUP.out with ⟨h, _⟩ | h
          · have e := HNU.out
            rw [h] at e
            simp at e
            omega
          · exact h
        obtain ⟨gu, capx, eu, _, E1l, _, _, E1, _⟩ := owns_row hO1 (by omega)
        subst eu
        have HE1 : Hid (w10.cell? ⟨gu, 0, none⟩ = some fv) := E1 0 fv rfl
        have HE0 : Hid (w10.cell? ⟨ob, 0, none⟩ = some (.slice (some ⟨gu, 0, none⟩) 1 capx)) := (blk_cell HON.out 0).trans rfl
        have E0l := blk_lt HON.out
        obtain ⟨gau, capu', ea, _, E2l, _, _, E2, _⟩ := owns_row HUR.out hU
        simp at ea
        obtain ⟨rfl, rfl⟩ := ea
        have HE2 : Hid (∀ (k : Nat) (y : ByteArray), (upsL r (child && !fp) l)[k]? = some y → w10.cell? ⟨gau, k, none⟩ = some (.string y)) := fun k y hk => E2 k _ (by simp [hk])
        have HFV : Hid (w10.ownsRow B9 5 1 fv (decZ s a b (upsL r (child && !fp) l) ab st).length (bc (decZ s a b (upsL r (child && !fp) l) ab st))) := hO2
        have HUZ : Hid (∀ x ∈ (upsL r (child && !fp) l), x.size ≤ 10) := fun x hx => HLZ.out x (ups_mem (child && !fp) l hx)
        have hdecU : ∀ wx, Below w10.heap.size w10 wx → Calls Yba.prog 13 #[.agg #[.string s, .int .u64 a, .int .u64 b, .slice (some ⟨gau, 0, none⟩) nU capu, .bool ab, .int .u64 st]] wx fun e w' => ∃ v', e = .returned v' ∧ w'.ownsRow wx.heap.size 5 1 v' (decZ s a b (upsL r (child && !fp) l) ab st).length (bc (decZ s a b (upsL r (child && !fp) l) ab st)) ∧ Below wx.heap.size wx w' := fun wx hx => by
          have hd := dec_any s a b gau capu (upsL r (child && !fp) l) ab st ha0 ha hb0 hb h0 h1 wx (by omega) (by rw [← HNU.out]; exact hnU) HUZ.out (by have := hx.size; omega) (fun k y hk => (hx.cell (p := ⟨gau, k, none⟩) E2l).trans (HE2.out k y hk))
          rw [← HNU.out] at hd
          exact hd
        clear E1 E2 hO1 hO2
        go_upto_region 66 with fail
        go_cut [298] from 277 to 297 (fun s298 wx => s298 = .bool false ∧ Hid (Below w10.heap.size w10 wx))
        case first => -- STAGE H1
          rename_i J1 K1 hJ1 hK1
          refine wp_region_any (by kernel_rfl) (anyI.any (L := 99) (I := fun w' => Below w10.heap.size w10 w') ?_)
          generalize hwd : ({ heap := w11.heap, tape := w11.tape, drawn := w11.drawn + 1, os := w11.os, output := w11.output } : World) = wd
          have hI : Hid (Below w10.heap.size w10 wd) := by subst hwd; exact hb11.out.drew
          clear hwd
          refine takeI (i := 0) (v := .pointer (some ⟨ob, 0, none⟩)) rfl (by kernel_rfl) (by kernel_rfl) (by kernel_rfl) (by kernel_rfl) (fun _ _ _ h => h) hI.out ⟨by rfl, fun w' h => by go_simp⟩ ?_
          refine takeI (i := 1) (v := .pointer (some ⟨ob, 0, none⟩)) rfl (by kernel_rfl) (by kernel_rfl) (by kernel_rfl) (by kernel_rfl) (fun _ _ _ h => h) hI.out ⟨by rfl, fun w' h => by go_simp⟩ ?_
          refine takeI (i := 2) (v := .pointer (some ⟨ob, 0, none⟩)) rfl (by kernel_rfl) (by kernel_rfl) (by kernel_rfl) (by kernel_rfl) (fun _ _ _ h => h) hI.out ⟨by rfl, fun w' h => by go_simp⟩ ?_
          refine takeI (i := 3) (v := .slice (some ⟨gu, 0, none⟩) 1 capx) rfl (by kernel_rfl) (by kernel_rfl) (by kernel_rfl) (by kernel_rfl) (fun _ _ _ h => h) hI.out ⟨by rfl, fun w' h => by have c0 := (h.cell (p := ⟨ob, 0, none⟩) E0l).trans HE0.out; go_simp⟩ ?_
          refine takeI (i := 4) (v := .int .i64 1) rfl (by kernel_rfl) (by kernel_rfl) (by kernel_rfl) (by kernel_rfl) (fun _ _ _ h => h) hI.out ⟨by rfl, fun w' h => by go_simp⟩ ?_
          refine takeI (i := 5) (v := .bool false) rfl (by kernel_rfl) (by kernel_rfl) (by kernel_rfl) (by kernel_rfl) (fun _ _ _ h => h) hI.out ⟨by rfl, fun w' h => by go_simp⟩ ?_
          refine takeI (i := 6) (v := .bool false) rfl (by kernel_rfl) (by kernel_rfl) (by kernel_rfl) (by kernel_rfl) (fun _ _ _ h => h) hI.out ⟨by rfl, fun w' h => by go_simp⟩ ?_
          refine takeI (i := 7) (v := .pointer (some ⟨ob, 0, none⟩)) rfl (by kernel_rfl) (by kernel_rfl) (by kernel_rfl) (by kernel_rfl) (fun _ _ _ h => h) hI.out ⟨by kernel_rfl, fun w' h => by go_simp⟩ ?_
          refine takeI (i := 8) (v := .pointer (some ⟨ob, 0, none⟩)) rfl (by kernel_rfl) (by kernel_rfl) (by kernel_rfl) (by kernel_rfl) (fun _ _ _ h => h) hI.out ⟨by kernel_rfl, fun w' h => by go_simp⟩ ?_
          refine takeI (i := 9) (v := .pointer (some ⟨ob, 0, none⟩)) rfl (by kernel_rfl) (by kernel_rfl) (by kernel_rfl) (by kernel_rfl) (fun _ _ _ h => h) hI.out ⟨by kernel_rfl, fun w' h => by go_simp⟩ ?_
          refine takeI (i := 10) (v := .slice (some ⟨gu, 0, none⟩) 1 capx) rfl (by kernel_rfl) (by kernel_rfl) (by kernel_rfl) (by kernel_rfl) (fun _ _ _ h => h) hI.out ⟨by kernel_rfl, fun w' h => by have c0 := (h.cell (p := ⟨ob, 0, none⟩) E0l).trans HE0.out; go_simp⟩ ?_
          refine takeI (i := 11) (v := .pointer (some ⟨gu, 0, none⟩)) rfl (by kernel_rfl) (by kernel_rfl) (by kernel_rfl) (by kernel_rfl) (fun _ _ _ h => h) hI.out ⟨by kernel_rfl, fun w' h => by go_simp⟩ ?_
          refine takeI (i := 12) (v := fv) rfl (by kernel_rfl) (by kernel_rfl) (by kernel_rfl) (by kernel_rfl) (fun _ _ _ h => h) hI.out ⟨by kernel_rfl, fun w' h => by have c0 := (h.cell (p := ⟨gu, 0, none⟩) E1l).trans HE1.out; go_simp⟩ ?_
          refine takeI (i := 13) (v := .agg #[.string s, .int .u64 a, .int .u64 b]) rfl (by kernel_rfl) (by kernel_rfl) (by kernel_rfl) (by kernel_rfl) (fun _ _ _ h => h) hI.out ⟨by kernel_rfl, fun w' h => by have hid0 := h.block _ (blk_lt HB.out.idb); rw [HB.out.idb] at hid0; have c0 := cellLit hid0 0; have c1 := cellLit hid0 1; have c2 := cellLit hid0 2; simp at c0 c1 c2; go_simp⟩ ?_
          refine takeI (i := 14) (v := .slice (some ⟨gau, 0, none⟩) nU capu) rfl (by kernel_rfl) (by kernel_rfl) (by kernel_rfl) (by kernel_rfl) (fun _ _ _ h => h) hI.out ⟨by kernel_rfl, fun w' h => by go_simp⟩ ?_
          refine takeI (i := 15) (v := .bool ab) rfl (by kernel_rfl) (by kernel_rfl) (by kernel_rfl) (by kernel_rfl) (fun _ _ _ h => h) hI.out ⟨by kernel_rfl, fun w' h => by go_simp⟩ ?_
          refine takeI (i := 16) (v := .int .u64 st) rfl (by kernel_rfl) (by kernel_rfl) (by kernel_rfl) (by kernel_rfl) (fun _ _ _ h => h) hI.out ⟨by kernel_rfl, fun w' h => by go_simp⟩ ?_
          refine takeI (i := 17) (v := .agg #[.string s, .int .u64 a, .int .u64 b, .slice (some ⟨gau, 0, none⟩) nU capu, .bool ab, .int .u64 st]) rfl (by kernel_rfl) (by kernel_rfl) (by kernel_rfl) (by kernel_rfl) (fun _ _ _ h => h) hI.out ⟨by kernel_rfl, fun w' h => by go_simp⟩ ?_
          refine oneG (i := 18) rfl (by kernel_rfl) (by kernel_rfl) (fun K hK => ?_)
          refine step_call_w 13 _ _ rfl #[.agg #[.string s, .int .u64 a, .int .u64 b, .slice (some ⟨gau, 0, none⟩) nU capu, .bool ab, .int .u64 st]] (by go_simp) (en13 _ _) (hdecU _ hI.out) ?_
          rintro e w12 ⟨v2, rfl, hown2, hb2⟩
          have hI3 : Hid (Below w10.heap.size w10 w12) := hI.out.trans (hb2.mono hI.out.size)
          refine ⟨v2, rfl, hK _ _ (fun _ => hI3.out) ?_⟩
          clear hK K
          refine oneG (i := 19) rfl (by kernel_rfl) (by kernel_rfl) (fun K hK => ?_)
          refine step_call_w 12 _ _ rfl #[fv, v2] (by go_simp) (en12 _ _) (equal_any fv v2 B9 wd.heap.size (decZ s a b (upsL r (child && !fp) l) ab st).length (decZ s a b (upsL r (child && !fp) l) ab st) _ (owns_below HFV.out hI3.out) hown2 (dec_pos s a b (upsL r (child && !fp) l) ab st)) ?_
          rintro e w13 ⟨rfl, rfl⟩
          refine ⟨_, rfl, hK _ _ (fun _ => hI3.out) ?_⟩
          clear hK K hown2 hb2
          refine takeI (i := 20) (v := .bool false) rfl (by kernel_rfl) (by kernel_rfl) (by kernel_rfl) (by kernel_rfl) (fun _ _ _ h => h) hI3.out ⟨by kernel_rfl, fun w' h => by go_simp⟩ ?_
          refine takeI (i := 21) (v := .bool false) rfl (by kernel_rfl) (by kernel_rfl) (by kernel_rfl) (by kernel_rfl) (fun _ _ _ h => h) hI3.out ⟨by kernel_rfl, fun w' h => by go_simp⟩ ?_
          refine doneI (by kernel_rfl) ?_ _
          refine hK1 _ _ (Met.intro (hJ1 _ _ ?_))
          exact ⟨.pointer (some ⟨ob, 0, none⟩), .pointer (some ⟨ob, 0, none⟩), .pointer (some ⟨ob, 0, none⟩), .slice (some ⟨gu, 0, none⟩) 1 capx, .int .i64 1, .bool false, .bool false, .pointer (some ⟨ob, 0, none⟩), .pointer (some ⟨ob, 0, none⟩), .pointer (some ⟨ob, 0, none⟩), .slice (some ⟨gu, 0, none⟩) 1 capx, .pointer (some ⟨gu, 0, none⟩), fv, .agg #[.string s, .int .u64 a, .int .u64 b], .slice (some ⟨gau, 0, none⟩) nU capu, .bool ab, .int .u64 st, .agg #[.string s, .int .u64 a, .int .u64 b, .slice (some ⟨gau, 0, none⟩) nU capu, .bool ab, .int .u64 st], v2, .bool true, .bool false, .bool false, ⟨rfl, hI3⟩, by kernel_rfl⟩
        case rest =>
          obtain ⟨rfl, hb66⟩ := hcut
          go_wp2
          go_meet
          exact hb66
      · have hU0 : nU = 0 := by omega
        have huv : uv = .slice none 0 0 := by
          rcases HUP.out with ⟨_, h⟩ | ⟨h, _⟩
          · exact h
          · exact absurd (List.length_eq_zero_iff.1 (by rw [← HNU.out]; exact hU0)) h
        subst huv
        have c0 : w11.cell? ⟨ob, 0, none⟩ = some (.slice none 0 0) := (hb11.out.cell (p := ⟨ob, 0, none⟩) (blk_lt HON.out)).trans ((blk_cell HON.out 0).trans rfl)
        go_wp2
        go_meet
        exact hb11
    case rest =>
      have hb14 := hcut
      obtain ⟨w14, hw14⟩ : ∃ w14, w14 = wc := ⟨_, rfl⟩
      subst hw14
      clear hb11 HUP HON HUR HLG
      go_upto_block 12 with fail
      rename_i K8 hK8
      exact votes_any ha0 ha hb0 hb h0 h1 hn hs hll HNT HNU HB HPB HPK HHP HHN HNM HVS HT HLZ hnT hnU hb14 K8 hK8
end Go.Proofs.Ybulkakzq.LawB
