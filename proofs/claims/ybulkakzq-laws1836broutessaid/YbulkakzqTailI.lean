/-
  LawS1836BRoutes: the walk, its last part: the check of the votes.
-/
import Derived.Test.YbulkakzqCheckB
import Derived.Deep.CutBlock
namespace Go.Proofs.Ybulkakzq.LawB
open Go.RowKit Wire Blocks RegSteps Still Dec Votes Callees Names Box Fam Sp Sorts Split Rd Route New Setup SortB CheckB
open Go.Shelf
set_option linter.unusedVariables false
set_option maxRecDepth 100000

theorem info3 : (Yba.prog.info? 3).map (fun i => (i.zero, i.size, i.bytes)) = some (some (.int .i64 0), 1, 8) := by kernel_rfl
theorem info110 : (Yba.prog.info? 110).map (fun i => (i.zero, i.size, i.bytes)) = some (some (.slice none 0 0), 1, 24) := by kernel_rfl

theorem nameAt_size (i : Nat) : (nameAt i).size ≤ 10 := by
  match i with
  | 0 | 1 | 2 | 3 | 4 | 5 => decide
  | i + 6 => simp [nameAt, six]; decide
theorem nameAt_mem (k : Nat) (hk : k < 6) : nameAt k ∈ six := by
  have : k = 0 ∨ k = 1 ∨ k = 2 ∨ k = 3 ∨ k = 4 ∨ k = 5 := by omega
  rcases this with rfl | rfl | rfl | rfl | rfl | rfl <;> simp [nameAt, six]
theorem six_nodup : six.Nodup := by simp [six]

/-- What follows a statement; the statement itself. -/
def rt : Code → Code | .seq _ c => c | c => c
def lf : Code → Code | .seq c _ => c | c => c
/-- Parts of the law's own body. -/
noncomputable def body4 : Code := match Yba.f4.body with | some c => c | none => .skip
noncomputable def from21 : Code := (rt (rt (rt (rt (rt (rt (rt (rt (rt (rt (rt (rt (rt (rt (rt (rt (rt (rt (rt (rt (rt body4)))))))))))))))))))))
noncomputable def from23 : Code := rt (rt from21)

set_option maxHeartbeats 64000000 in
theorem votes_any {ta : Option Addr} {n tcap : Nat} {q0 q1 q2 q3 : Nat} {g0 g1 g2 g3 child fp : Bool} {s : ByteArray} {a b : Int} {ab : Bool} {st : Int} {w : World} {gb nb ib : Nat} {P M : Nat → Nat} {db : Nat} {w7 : World} {l : List ByteArray} {r : ByteArray → Option Nat} {T : List T3} {nT nU : Nat} {ap an au : Option Addr} {capp capn capu : Nat} {w10 : World} {ob : Nat} {x10 x13 x14 x15 x16 x17 x18 x19 x20 x27 x28 x29 x30 x35 x36 x37 x38 x39 x40 x43 x45 x46 x47 x48 x49 x50 x51 x52 x53 x54 x55 x56 x57 x58 x59 x60 x61 x62 x63 x64 x65 x66 x67 x68 x69 x70 x71 x72 x73 x74 x75 x76 x77 x78 x79 x80 x81 x82 x83 x84 x85 x86 x87 x88 x89 x90 x91 x92 x93 x94 x95 x96 x97 x98 x99 x100 x101 x102 x103 x104 x105 x106 x107 x108 x109 x110 x111 x112 x113 x114 x115 x116 x117 x118 x119 x120 x121 x122 x123 x124 x125 x126 x127 x128 x129 x130 x131 x132 x133 x134 x135 x136 x137 x138 x139 x140 x141 x142 x143 x144 x145 x146 x147 x148 x149 x150 x151 x152 x153 x154 x155 x156 x157 x158 x159 x160 x161 x162 x163 x164 x165 x166 x167 x168 x169 x170 x171 x172 x173 x174 x175 x176 x177 x178 x179 x180 x181 x182 x183 x184 x185 x186 x187 x188 x189 x190 x191 x192 x193 x194 x195 x196 x197 x198 x199 x200 x201 x202 x203 x204 x205 x206 x207 x208 x209 x210 x211 x212 x213 x214 x215 x216 x217 x218 x219 x220 x221 x222 x223 x224 x225 x226 x227 x228 x229 x230 x231 x232 x233 x234 x235 x236 x237 x238 x239 x240 x241 x242 x243 x244 x245 x246 x247 x248 x249 x250 x251 x252 x253 x254 x255 x256 x257 x258 x259 x260 x261 x262 x263 x264 x265 x266 x267 x268 x269 x270 x271 x272 x273 x274 x275 x276 x277 x278 x279 x280 x281 x282 x283 x284 x285 x286 x287 x288 x289 x290 x291 x292 x293 x294 x295 x296 x297 x298 x299 x300 x301 x302 x303 x304 x305 x306 x307 x308 x309 x310 x311 x312 x313 x314 x315 x316 x317 x318 x319 x320 x321 x322 x323 x324 x325 x326 x327 x328 x329 x330 x331 x332 x333 x334 x335 x336 x337 x338 x339 x340 x341 x342 x343 x344 x345 x346 x347 x348 x349 x350 x351 x352 x353 x354 x355 x356 : Value}
    (ha0 : 0 ≤ a) (ha : a ≤ 18446744073709551615) (hb0 : 0 ≤ b) (hb : b ≤ 18446744073709551615) (h0 : 0 ≤ st) (h1 : st ≤ 18446744073709551615) (hn : n ≤ 1024) (hs : s.size ≤ 1024) (hll : l.length = n) (HNT : Hid (nT = T.length)) (HNU : Hid (nU = (upsL r (child && !fp) l).length))
    (HB : Hid (Base w w10 gb nb ib q0 q1 q2 q3 g0 g1 g2 g3 child s a b)) (HPB : Hid (w10.heap[ib + 1]? = some (Obj.cells (parr P 3) 43 (0, 0)))) (HPK : Hid (∀ (i : Nat), i < 3 → ∃ c, w10.heap[P i]? = some (Obj.cells c 71 (0, 0)) ∧ c[18]? = some (Value.map (some (M i)))))
    (HHP : Hid (w10.ownsRow w7.heap.size 3 1 (.slice ap nT capp) nT (T.map (fun t => Value.int .i64 (t.1 : Int))))) (HHN : Hid (w10.ownsRow w7.heap.size 110 1 (.slice an nT capn) nT (flatT noP T)))
    (HNM : Hid (∀ (j : Nat) (t : T3), T[j]? = some t → w10.ownsRow w7.heap.size 9 1 t.2.1 t.2.2.length (t.2.2.map Value.string)))
    (HVS : Hid (Vs w10 M s a b six (struck (hopsL r l)))) (HT : Hid (hopsT T = hopsL r l)) (HLZ : Hid (∀ x ∈ l, x.size ≤ 10)) (hnT : nT ≤ 1024) (hnU : nU ≤ 1024)
    {w14 : World} (hb14 : Hid (Below w10.heap.size w10 w14)) (K9 : Act → World → Prop) (hK9 : ∀ a' w', Code.wp Yba.prog (rt from23) (bodyPost Yba.prog Yba.f4 fun e w' => e = .returned (.bool true) ∧ Below w.heap.size w w') a' w' → K9 a' w') :
    Code.wp Yba.prog (rt (lf from23)) (Exit.then K9 (bodyPost Yba.prog Yba.f4 fun e w' => e = .returned (.bool true) ∧ Below w.heap.size w w')) ⟨#[.slice ta n tcap, .agg #[.int .u8 q0, .int .u8 q1, .int .u8 q2, .int .u8 q3], .agg #[.bool g0, .bool g1, .bool g2, .bool g3], .bool child, .bool fp, .string s, .int .u64 a, .int .u64 b, .bool ab, .int .u64 st, x10, .pointer (some ⟨w.heap.size, 0, none⟩), .pointer (some ⟨w.heap.size + 1, 0, none⟩), x13, x14, x15, x16, x17, x18, x19, x20, .pointer (some ⟨w.heap.size + 1 + 1, 0, none⟩), .pointer (some ⟨w.heap.size + 1 + 1 + 1, 0, none⟩), .pointer (some ⟨w.heap.size + 1 + 1 + 1 + 1, 0, none⟩), .pointer (some ⟨gb, 0, none⟩), .pointer (some ⟨ib, 0, none⟩), .pointer (some ⟨ib + 1, 0, none⟩), x27, x28, x29, x30, .slice (some ⟨db, 0, none⟩) n n, .slice ap nT capp, .slice an nT capn, .slice au nU capu, x35, x36, x37, x38, x39, x40, .pointer (some ⟨ob, 0, none⟩), .bool (decide (0 < nU)), x43, .int .i64 0, x45, x46, x47, x48, x49, x50, x51, x52, x53, x54, x55, x56, x57, x58, x59, x60, x61, x62, x63, x64, x65, x66, x67, x68, x69, x70, x71, x72, x73, x74, x75, x76, x77, x78, x79, x80, x81, x82, x83, x84, x85, x86, x87, x88, x89, x90, x91, x92, x93, x94, x95, x96, x97, x98, x99, x100, x101, x102, x103, x104, x105, x106, x107, x108, x109, x110, x111, x112, x113, x114, x115, x116, x117, x118, x119, x120, x121, x122, x123, x124, x125, x126, x127, x128, x129, x130, x131, x132, x133, x134, x135, x136, x137, x138, x139, x140, x141, x142, x143, x144, x145, x146, x147, x148, x149, x150, x151, x152, x153, x154, x155, x156, x157, x158, x159, x160, x161, x162, x163, x164, x165, x166, x167, x168, x169, x170, x171, x172, x173, x174, x175, x176, x177, x178, x179, x180, x181, x182, x183, x184, x185, x186, x187, x188, x189, x190, x191, x192, x193, x194, x195, x196, x197, x198, x199, x200, x201, x202, x203, x204, x205, x206, x207, x208, x209, x210, x211, x212, x213, x214, x215, x216, x217, x218, x219, x220, x221, x222, x223, x224, x225, x226, x227, x228, x229, x230, x231, x232, x233, x234, x235, x236, x237, x238, x239, x240, x241, x242, x243, x244, x245, x246, x247, x248, x249, x250, x251, x252, x253, x254, x255, x256, x257, x258, x259, x260, x261, x262, x263, x264, x265, x266, x267, x268, x269, x270, x271, x272, x273, x274, x275, x276, x277, x278, x279, x280, x281, x282, x283, x284, x285, x286, x287, x288, x289, x290, x291, x292, x293, x294, x295, x296, x297, x298, x299, x300, x301, x302, x303, x304, x305, x306, x307, x308, x309, x310, x311, x312, x313, x314, x315, x316, x317, x318, x319, x320, x321, x322, x323, x324, x325, x326, x327, x328, x329, x330, x331, x332, x333, x334, x335, x336, x337, x338, x339, x340, x341, x342, x343, x344, x345, x346, x347, x348, x349, x350, x351, x352, x353, x354, x355, x356], []⟩ w14 := by
  have en14 : ∀ args w, (callFunc 14 args).run Yba.prog w = .ok (.enter 14 args) w := enters_of Yba.func14 (by kernel_rfl) rfl
  generalize hQ : (bodyPost Yba.prog Yba.f4 fun e w' => e = .returned (.bool true) ∧ Below w.heap.size w w') = Q at hK9 ⊢
  dsimp only [from23, from21, body4, rt, lf, Yba.f4] at hK9 ⊢
  subst hQ
  go_wp2_with fail
  go_loopg [44, 45, 46, 47, 49] 3 (fun gg s44 _ _ _ _ wr => ∃ i : Nat, i ≤ 3 ∧ 3 - i ≤ gg ∧ s44 = .int .i64 i ∧ Hid (Below w10.heap.size w10 wr))
  case atStart => exact ⟨0, by omega, by omega, rfl, hb14⟩
  case round =>
    obtain ⟨i, hi, hgg, rfl, hbr⟩ := hrel
    by_cases hi3 : i < 3
    · have hi3z : (i : Int) < 3 := by omega
      obtain ⟨w15, hw15⟩ : ∃ w15, w15 = wr := ⟨_, rfl⟩
      subst hw15
      go_upto_block 14 with fail
      go_wp2_with fail
      go_loopg [45, 46, 47, 49] 6 (fun gg s45 _ _ _ wr => ∃ k : Nat, k ≤ 6 ∧ 6 - k ≤ gg ∧ s45 = .int .i64 k ∧ Hid (Below w10.heap.size w10 wr))
      case atStart => exact ⟨0, by omega, by omega, rfl, hbr⟩
      case round =>
        obtain ⟨k, hk, hgk, rfl, hbk⟩ := hrel
        by_cases hk6 : k < 6
        · have hk6z : (k : Int) < 6 := by omega
          obtain ⟨w16, hw16⟩ : ∃ w16, w16 = wr := ⟨_, rfl⟩
          subst hw16
          have HNK : Hid (w16.cell? ⟨w.heap.size + 1 + 1, k, none⟩ = some (.string (nameAt k))) := by
            have hnm0 := hbk.out.block _ (blk_lt HB.out.nam)
            rw [HB.out.nam] at hnm0
            exact (blk_cell (b := w.heap.size + 1 + 1) hnm0 k).trans (name_cell k hk6)
          go_upto_if 314 with fail
          go_cut [46, 47, 49] from 314 to 341 (fun s46 _ _ wx => w16 = wx ∧ ∃ wt : Bool, s46 = .bool wt ∧ Hid (wt = true ↔ nameAt k ∉ struck (hopsL r l) i))
          case first => -- STAGE I1
            by_cases hi0 : 0 < i
            · have hi0z : (0 : Int) < (i : Int) := by omega
              rw [decide_eq_true hi0]
              go_wp2_with fail
              go_loopg [46, 47, 49] nT (fun gg s46 s47 _ wx => w16 = wx ∧ ∃ (j : Nat) (wt : Bool), j ≤ nT ∧ nT - j ≤ gg ∧ s47 = .int .i64 j ∧ s46 = .bool wt ∧ Hid (wt = true ↔ nameAt k ∉ struck ((hopsL r l).take j) i))
              case atStart => exact ⟨rfl, 0, true, by omega, by omega, rfl, rfl, hid (by simp [struck])⟩
              case round =>
                obtain ⟨hww, j, wt, hj, hgj, rfl, rfl, hwt⟩ := hrel
                subst hww
                by_cases hjl : j < nT
                · have hjz : (j : Int) < (nT : Int) := by omega
                  obtain ⟨t, hjt⟩ : ∃ t, T[j]? = some t := ⟨_, List.getElem?_eq_getElem (by rw [← HNT.out]; exact hjl)⟩
                  have hjH : (hopsL r l)[j]? = some (t.1, t.2.2) := by rw [← HT.out, hopsT, List.getElem?_map, hjt]; rfl
                  obtain ⟨hn0, hnl, _⟩ := hop_names hjH
                  simp only at hn0 hnl
                  have hn0 : 0 < t.2.2.length := List.length_pos_iff.2 hn0
                  have HJT : Hid (struck ((hopsL r l).take (j + 1)) i = struck ((hopsL r l).take j) i ++ (if 0 < i ∧ i = t.1 then t.2.2 else [])) := struck_take hjH i
                  obtain ⟨gp, capp', ep, _, E3l, _, _, E3, _⟩ := owns_row HHP.out (by omega)
                  simp at ep
                  obtain ⟨rfl, rfl⟩ := ep
                  have c3 : w16.cell? ⟨gp, j, none⟩ = some (.int .i64 (t.1 : Int)) := (hbk.out.cell (p := ⟨gp, j, none⟩) E3l).trans (E3 j (.int .i64 (t.1 : Int)) (by simp [hjt]))
                  obtain ⟨gn, capn', en, _, E4l, _, _, E4, _⟩ := owns_row HHN.out (by omega)
                  simp at en
                  obtain ⟨rfl, rfl⟩ := en
                  have E4 := E4 j t.2.1 (by have := flat_val (pre := noP) (q := 0) (fun _ => rfl) hjt; simpa using this)
                  obtain ⟨gm, capm, em, _, E5l, _, _, E5, _⟩ := owns_row (HNM.out j t hjt) hn0
                  rw [em] at E4
                  have c4 : w16.cell? ⟨gn, j, none⟩ = some (.slice (some ⟨gm, 0, none⟩) t.2.2.length capm) := (hbk.out.cell (p := ⟨gn, j, none⟩) E4l).trans E4
                  have HE5 : Hid (∀ (m : Nat) (y : ByteArray), t.2.2[m]? = some y → w16.cell? ⟨gm, m, none⟩ = some (.string y)) := fun m y hm => (hbk.out.cell (p := ⟨gm, m, none⟩) E5l).trans (E5 m _ (by simp [hm]))
                  clear E3 E4 E5 hjH hjt em
                  by_cases hti : t.1 = i
                  · have htz : (t.1 : Int) = (i : Int) := by omega
                    have HTI : Hid (t.1 = i) := hti
                    clear hti
                    generalize hnmE : t.2.2 = nm at HJT hn0 hnl c4 HE5
                    clear hnmE
                    go_wp2_with fail
                    clear c3 c4
                    go_loopg [46, 49, 332] nm.length (fun gg s46 _ s332 wx => w16 = wx ∧ ∃ (m : Nat) (wt : Bool), m ≤ nm.length ∧ nm.length - m ≤ gg ∧ s332 = .int .i64 m ∧ s46 = .bool wt ∧ Hid (wt = true ↔ nameAt k ∉ struck ((hopsL r l).take j) i ∧ nameAt k ∉ nm.take m))
                    case atStart => exact ⟨rfl, 0, wt, by omega, by omega, rfl, rfl, hid (by simp [hwt.out])⟩
                    case round =>
                      obtain ⟨hww, m, wt2, hm, hgm, rfl, rfl, hwt2⟩ := hrel
                      subst hww
                      by_cases hml : m < nm.length
                      · have hmz : (m : Int) < (nm.length : Int) := by omega
                        obtain ⟨y, hmy⟩ : ∃ y, nm[m]? = some y := ⟨_, List.getElem?_eq_getElem hml⟩
                        have c5 : w16.cell? ⟨gm, m, none⟩ = some (.string y) := HE5.out m y hmy
                        have c6 : w16.cell? ⟨w.heap.size + 1 + 1, k, none⟩ = some (.string (nameAt k)) := HNK.out
                        have HTK : Hid (nm.take (m + 1) = nm.take m ++ [y]) := take_snoc hmy
                        clear hmy
                        by_cases hyk : y = nameAt k
                        · have hyb : (y.toList == (nameAt k).toList) = true := by rw [hyk]; simp
                          have HYK : Hid (y = nameAt k) := hyk
                          clear hyk
                          go_wp2
                          go_roundg (nm.length - (m + 1))
                          case measure => omega
                          case rel => exact ⟨rfl, m + 1, false, by omega, Nat.le_refl _, rfl, rfl, hid (by rw [HTK.out, HYK.out]; simp)⟩
                        · have hyb : (y.toList == (nameAt k).toList) = false := (Lib.bytes_beq_false_iff y (nameAt k)).2 hyk
                          have HYK : Hid (y ≠ nameAt k) := hyk
                          clear hyk
                          go_wp2
                          go_roundg (nm.length - (m + 1))
                          case measure => omega
                          case rel => exact ⟨rfl, m + 1, wt2, by omega, Nat.le_refl _, rfl, rfl, hid (by rw [HTK.out, hwt2.out]; simp [Ne.symm HYK.out])⟩
                      · have hmz : ¬ ((m : Int) < (nm.length : Int)) := by omega
                        obtain rfl : m = nm.length := by omega
                        go_wp2
                        go_roundg (nT - (j + 1))
                        case measure => omega
                        case rel => exact ⟨rfl, j + 1, wt2, by omega, Nat.le_refl _, rfl, rfl, hid (by rw [hwt2.out, HJT.out, if_pos ⟨hi0, HTI.out.symm⟩]; simp)⟩
                  · have htz : ¬ ((t.1 : Int) = (i : Int)) := by omega
                    have HTI : Hid (t.1 ≠ i) := hti
                    clear hti
                    go_wp2
                    go_roundg (nT - (j + 1))
                    case measure => omega
                    case rel => exact ⟨rfl, j + 1, wt, by omega, Nat.le_refl _, rfl, rfl, hid (by rw [HJT.out, if_neg (fun h => HTI.out h.2.symm)]; simpa using hwt.out)⟩
                · have hjz : ¬ ((j : Int) < (nT : Int)) := by omega
                  obtain rfl : j = nT := by omega
                  go_wp2
                  go_meet
                  refine ⟨rfl, wt, rfl, ?_⟩
                  have e1 : (hopsL r l).take j = (hopsL r l) := List.take_of_length_le (by rw [HNT.out, ← HT.out]; simp [hopsT])
                  have := hwt.out
                  rw [e1] at this
                  exact this
            · obtain rfl : i = 0 := by omega
              go_wp2
              go_meet
              exact ⟨rfl, true, rfl, hid (by simp [struck])⟩
          case rest =>
            obtain ⟨hww, wt, rfl, hwt⟩ := hcut
            subst hww
            go_upto_region 88 with fail
            go_cut [356] from 342 to 355 (fun s356 wx => s356 = .bool false ∧ Hid (Below w10.heap.size w10 wx))
            case first => -- STAGE I2
              obtain ⟨cp, hcp, h18⟩ := HPK.out i hi3
              obtain ⟨S, hUM, _, hSm⟩ := HVS.out i hi3
              have HSM : Hid (∀ y, y ∈ S ↔ y ∈ six ∧ y ∉ struck (hopsL r l) i) := hSm
              have HUM : Hid (UM w10 (M i) s a b S) := hUM
              have hin : nameAt k ∈ six := nameAt_mem k hk6
              clear hSm hUM
              refine wp_region_any (by kernel_rfl) (anyI.any (L := 99) (I := fun w' => Below w10.heap.size w10 w') ?_)
              generalize hwd : ({ heap := w16.heap, tape := w16.tape, drawn := w16.drawn + 1, os := w16.os, output := w16.output } : World) = wd
              have hI : Hid (Below w10.heap.size w10 wd) := by subst hwd; exact hbk.out.drew
              clear hwd
              refine takeI (i := 0) (v := .int .i64 i) rfl (by kernel_rfl) (by kernel_rfl) (by kernel_rfl) (by kernel_rfl) (fun _ _ _ h => h) hI.out ⟨by rfl, fun w' h => by go_simp⟩ ?_
              refine takeI (i := 1) (v := .pointer (some ⟨ib + 1, i, none⟩)) rfl (by kernel_rfl) (by kernel_rfl) (by kernel_rfl) (by kernel_rfl) (fun _ _ _ h => h) hI.out ⟨by rfl, fun w' h => by go_simp⟩ ?_
              refine takeI (i := 2) (v := .pointer (some ⟨P i, 0, none⟩)) rfl (by kernel_rfl) (by kernel_rfl) (by kernel_rfl) (by kernel_rfl) (fun _ _ _ h => h) hI.out ⟨by rfl, fun w' h => by have hpb0 := h.block _ (blk_lt HPB.out); rw [HPB.out] at hpb0; have c0 := (blk_cell hpb0 i).trans (parr_cell P i hi3); go_simp⟩ ?_
              refine takeI (i := 3) (v := .pointer (some ⟨P i, 0, none⟩)) rfl (by kernel_rfl) (by kernel_rfl) (by kernel_rfl) (by kernel_rfl) (fun _ _ _ h => h) hI.out ⟨by rfl, fun w' h => by go_simp⟩ ?_
              refine takeI (i := 4) (v := .pointer (some ⟨P i, 18, none⟩)) rfl (by kernel_rfl) (by kernel_rfl) (by kernel_rfl) (by kernel_rfl) (fun _ _ _ h => h) hI.out ⟨by rfl, fun w' h => by go_simp⟩ ?_
              refine takeI (i := 5) (v := .pointer (some ⟨P i, 18, none⟩)) rfl (by kernel_rfl) (by kernel_rfl) (by kernel_rfl) (by kernel_rfl) (fun _ _ _ h => h) hI.out ⟨by rfl, fun w' h => by go_simp⟩ ?_
              refine takeI (i := 6) (v := .map (some (M i))) rfl (by kernel_rfl) (by kernel_rfl) (by kernel_rfl) (by kernel_rfl) (fun _ _ _ h => h) hI.out ⟨by rfl, fun w' h => by have c0 := (h.cell (p := ⟨P i, 18, none⟩) (blk_lt hcp)).trans ((blk_cell hcp 18).trans h18); go_simp⟩ ?_
              refine takeI (i := 7) (v := .agg #[.string s, .int .u64 a, .int .u64 b]) rfl (by kernel_rfl) (by kernel_rfl) (by kernel_rfl) (by kernel_rfl) (fun _ _ _ h => h) hI.out ⟨by rfl, fun w' h => by have hid0 := h.block _ (blk_lt HB.out.idb); rw [HB.out.idb] at hid0; have c0 := cellLit hid0 0; have c1 := cellLit hid0 1; have c2 := cellLit hid0 2; simp at c0 c1 c2; go_simp⟩ ?_
              refine takeI (i := 8) (v := .int .i64 k) rfl (by kernel_rfl) (by kernel_rfl) (by kernel_rfl) (by kernel_rfl) (fun _ _ _ h => h) hI.out ⟨by rfl, fun w' h => by go_simp⟩ ?_
              refine takeI (i := 9) (v := .pointer (some ⟨w.heap.size + 1 + 1, k, none⟩)) rfl (by kernel_rfl) (by kernel_rfl) (by kernel_rfl) (by kernel_rfl) (fun _ _ _ h => h) hI.out ⟨by rfl, fun w' h => by go_simp⟩ ?_
              refine takeI (i := 10) (v := .string (nameAt k)) rfl (by kernel_rfl) (by kernel_rfl) (by kernel_rfl) (by kernel_rfl) (fun _ _ _ h => h) hI.out ⟨by rfl, fun w' h => by have hnm0 := h.block _ (blk_lt HB.out.nam); rw [HB.out.nam] at hnm0; have c0 := (blk_cell (b := w.heap.size + 1 + 1) hnm0 k).trans (name_cell k hk6); go_simp⟩ ?_
              refine takeI (i := 11) (v := .agg #[.string s, .int .u64 a, .int .u64 b, .string (nameAt k)]) rfl (by kernel_rfl) (by kernel_rfl) (by kernel_rfl) (by kernel_rfl) (fun _ _ _ h => h) hI.out ⟨by rfl, fun w' h => by go_simp⟩ ?_
              refine takeI (i := 13) (v := .bool wt) rfl (by kernel_rfl) (by kernel_rfl) (by kernel_rfl) (by kernel_rfl) (fun _ _ _ h => h) hI.out ⟨by rfl, fun w' h => by go_simp⟩ ?_
              refine oneI (i := 12) rfl (by kernel_rfl) (fun K hK => ?_)
              refine step_call rfl 14 _ _ rfl #[.map (some (M i)), .agg #[.string s, .int .u64 a, .int .u64 b, .string (nameAt k)]] (by go_simp) (en14 _ _) (has_any (M i) s a b S (nameAt k) _ (HUM.out.block (hI.out.block _ HUM.out.lt))) ?_
              rintro e w17 ⟨t, ht, rfl, hb17⟩
              have hI3 : Hid (Below w10.heap.size w10 w17) := hI.out.trans (hb17.mono hI.out.size)
              have htw : t = wt := by
                have h1 : t = true ↔ wt = true := by rw [ht, HSM.out, hwt.out]; exact ⟨fun h => h.2, fun h => ⟨hin, h⟩⟩
                cases t <;> cases wt <;> simp at h1 ⊢
              subst htw
              refine ⟨_, rfl, hK _ _ (fun _ => hI3.out) ?_⟩
              clear hK K ht hb17
              refine oneI (i := 14) rfl (by kernel_rfl) (fun K hK => ?_)
              go_simp
              refine hK _ _ (fun _ => hI3.out) ?_
              clear hK K
              refine doneI (by kernel_rfl) ?_ _
              go_wp2
              go_meet
              exact ⟨by simp, hI3⟩
            case rest =>
              obtain ⟨rfl, hb88⟩ := hcut
              go_wp2
              go_roundg (6 - (k + 1))
              case measure => omega
              case rel => exact ⟨k + 1, by omega, Nat.le_refl _, rfl, hb88⟩
        · have hk6z : ¬ ((k : Int) < 6) := by omega
          go_wp2
          go_roundg (3 - (i + 1))
          case measure => omega
          case rel => exact ⟨i + 1, by omega, Nat.le_refl _, rfl, hbk⟩
    · have hi3z : ¬ ((i : Int) < 3) := by omega
      go_wp2
      go_ret
      exact ⟨rfl, HB.out.low.trans (hbr.out.mono HB.out.low.size)⟩
end Go.Proofs.Ybulkakzq.LawB
