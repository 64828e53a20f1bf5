/-
  LawS1839BLoopedBack: the walk.
-/
import Derived.Test.YbulkalbgFmtRound
import Derived.Deep.CutBlock
namespace Go.Proofs.YbulkalbgFmt.Law
open Go.RowKit Blocks Mem Reads Back Chains Errf Join Looped Round
open Go.Extern.Stop Go.Stop Go.Extern
set_option linter.unusedVariables false
set_option maxRecDepth 100000

theorem info33 : (Ybaf.prog.info? 33).map (fun i => (i.zero, i.size, i.bytes)) = some (some (.pointer none), 1, 8) := by kernel_rfl
theorem info29 : (Ybaf.prog.info? 29).map (fun i => (i.zero, i.size, i.bytes)) = some (some (.pointer none), 1, 8) := by kernel_rfl

theorem one_new {w : World} {x : Value} {t N : Nat} (hN : N = w.heap.size) : ∀ j u, [x][j]? = some u → (w.alloc (.cells #[x] t)).cell? ((⟨N, 0, none⟩ : Addr).add j) = some u := by
  subst hN
  exact cell_one_new _ _ _

set_option maxHeartbeats 8000000 in
theorem walk (F : Interp) (fa : Option Addr) (n cap : Nat) (sel : Int) (out : ByteArray) (w : World) (hF : F.answers w.tape) (hfl : ∀ j, j < n → ∃ b o f, fa = some ⟨b, o, none⟩ ∧ b < w.heap.size ∧ w.cell? ⟨b, o + j, none⟩ = some (.int .u8 f))
    (bm : Nat) (hc0 : w.cell? ⟨0, 0, none⟩ = some (.map (some bm))) (hlook : ∀ w', Below w.heap.size w w' → (Instr.lookup 57 (.map (some bm)) (.string sIN) false).run Ybaf.prog w' = .ok (.agg #[.string sPRE, .string sIN]) w') :
    Calls Ybaf.prog 3 #[.slice fa n cap, .int .u8 sel, .string out] w fun e w' => e = .returned (.bool true) ∧ Below w.heap.size w w' := by
  obtain ⟨i0, hi0, hz0, hz1, hz2⟩ := info_parts info25
  obtain ⟨i1, hi1, hy0, hy1, hy2⟩ := info_parts info33
  obtain ⟨i2, hi2, hx0, hx1, hx2⟩ := info_parts info29
  have HF : Hid (F.answers w.tape) := hF
  have HL : Hid (∀ j, j < n → ∃ b o f, fa = some ⟨b, o, none⟩ ∧ b < w.heap.size ∧ w.cell? ⟨b, o + j, none⟩ = some (.int .u8 f)) := hfl
  have HK : Hid (w.cell? ⟨0, 0, none⟩ = some (.map (some bm)) ∧ ∀ w', Below w.heap.size w w' → (Instr.lookup 57 (.map (some bm)) (.string sIN) false).run Ybaf.prog w' = .ok (.agg #[.string sPRE, .string sIN]) w') := ⟨hc0, hlook⟩
  clear hF hfl hc0 hlook
  rcases Nat.lt_or_ge 256 n with hbig | hbig
  · have hb : (256 : Int) < (n : Int) := by omega
    go_enter Ybaf.func3, Ybaf.ntmps3
    go_wp2
    go_ret
    exact ⟨rfl, Below.refl _ _⟩
  have hb : ¬ (256 : Int) < (n : Int) := by omega
  go_enter Ybaf.func3, Ybaf.ntmps3
  go_wp2
  go_loopg [7, 8, 9, 11, 12, 13, 14, 15, 16, 17, 18, 19, 34] n (fun gg s7 s8 s9 _ _ _ _ _ _ _ _ _ s34 wr => ∃ (k : Nat) (M : List (Nat × Obj)) (ds : List D), k ≤ n ∧ n - k ≤ gg ∧ s34 = .int .i64 k ∧ Hid (St w wr M s7 s8 s9 (ds.map fun d => ptr d.rs) (pres ds) (ins ds)) ∧ Hid (∀ d ∈ ds, IsBack M d) ∧ Hid (ds.length = k))
  case atStart => exact ⟨0, [], [], Nat.zero_le _, by omega, rfl, St.start w, (fun d hd => absurd hd (by simp)), rfl⟩
  case round =>
    obtain ⟨k, M, ds, hk, hg, rfl, hS, hB, hD⟩ := hrel
    by_cases hlt : k < n
    · have hltz : (k : Int) < (n : Int) := by omega
      obtain ⟨fb, fo, f, rfl, hfb, hfc⟩ := HL.out k hlt
      have hcr : wr.cell? ⟨fb, fo + k, none⟩ = some (.int .u8 f) := (hS.out.2.cell (p := ⟨fb, fo + k, none⟩) hfb).trans hfc
      clear hfc hfb
      go_upto_if 40 with fail
      go_cut [12] (fun s12 wx => wr = wx ∧ ∃ (held : Bool) (line : Int), s12 = .int .i64 line ∧ Hid (line = if held then 1 else 0))
      case first =>
        go_wp2
        all_goals go_meet
        all_goals first | exact ⟨rfl, true, _, rfl, rfl⟩ | exact ⟨rfl, false, _, rfl, rfl⟩
      case rest =>
        obtain ⟨rfl, held, line, rfl, hline⟩ := hcut
        go_upto_if 43 with fail
        go_cut [13] (fun s13 wx => wr = wx ∧ ∃ (inp : Bool) (pol : ByteArray), s13 = .string pol ∧ Hid (pol = if inp then sACC else sNO))
        case first =>
          go_wp2
          all_goals go_meet
          all_goals first | exact ⟨rfl, true, _, rfl, rfl⟩ | exact ⟨rfl, false, _, rfl, rfl⟩
        case rest =>
          obtain ⟨rfl, inp, pol, rfl, hpol⟩ := hcut
          go_upto_if 58 with fail
          clear hcr
          obtain ⟨M1, hS1, hM1, hT1, _⟩ := hS.out.lay sFIL line sIN pol
          have hS2 : Hid (St w (lay4 wr sFIL line sIN pol) M1 u7 u8 u9 (ds.map fun d => ptr d.rs) (pres ds) (ins ds)) := hS1
          have hT2 : Hid (IsTab M1 (wr.heap.size + 3) sFIL line sIN wr.heap.size pol) := hT1
          have hM2 : Hid (∀ x ∈ M, x ∈ M1) := hM1
          have hQ : Hid (Tabs w ((lay4 wr sFIL line sIN pol).alloc (.cells #[ptr (wr.heap.size + 3)] 29)) M1 (.slice (some ⟨wr.heap.size + 4, 0, none⟩) 1 1) [(wr.heap.size + 3, sFIL)]) := by
            have := Tabs.new (w := w) hS1.1.holds hS1.1.base [(wr.heap.size + 3, sFIL)] (by simp) (by simp) #[ptr (wr.heap.size + 3)] rfl
            rw [lay4_size] at this
            exact this
          clear hS1 hT1 hM1
          go_cut [8, 16] (fun s8 s16 wx => ∃ (M2 : List (Nat × Obj)) (L : List (Nat × ByteArray)) (rb preb : Nat) (raw pre : Bool), Hid (St w wx M2 u7 s8 u9 (ds.map fun d => ptr d.rs) (pres ds ++ if raw && pre then [ptr preb] else []) (ins ds)) ∧ Hid (Tabs w wx M2 s16 L) ∧ Hid (∀ x ∈ M1, x ∈ M2) ∧
            Hid (raw = true → IsTab M2 rb sRAW 1 sPRE preb (if pre then sDROP else sNO)) ∧ Hid (raw = false → L = [(wr.heap.size + 3, sFIL)]) ∧ Hid (raw = true → L = [(wr.heap.size + 3, sFIL), (rb, sRAW)] ∨ L = [(rb, sRAW), (wr.heap.size + 3, sFIL)]))
          case first =>
            go_upto_if 61 with fail
            · go_cut [17] (fun s17 wx => ((lay4 wr sFIL line sIN pol).alloc (.cells #[ptr (wr.heap.size + 3)] 29)) = wx ∧ ∃ (pre : Bool) (rpol : ByteArray), s17 = .string rpol ∧ Hid (rpol = if pre then sDROP else sNO))
              case first =>
                go_wp2
                all_goals go_meet
                all_goals first | exact ⟨rfl, true, _, rfl, rfl⟩ | exact ⟨rfl, false, _, rfl, rfl⟩
              case rest =>
                obtain ⟨hw1, pre, rpol, rfl, hrpol⟩ := hcut
                obtain ⟨wp, hwp⟩ : ∃ wp, wp = wc := ⟨_, rfl⟩
                subst hwp
                have hS5 : Hid (St w wp M1 u7 u8 u9 (ds.map fun d => ptr d.rs) (pres ds) (ins ds)) := hw1 ▸ hS2.out.alloc' _
                have hQ5 : Hid (Tabs w wp M1 (.slice (some ⟨wr.heap.size + 4, 0, none⟩) 1 1) [(wr.heap.size + 3, sFIL)]) := hw1 ▸ hQ.out
                clear hw1
                obtain ⟨M3, hS6, hM6, hT6, hQ6⟩ := hS5.out.lay sRAW 1 sPRE rpol
                have hS6 : Hid (St w (lay4 wp sRAW 1 sPRE rpol) M3 u7 u8 u9 (ds.map fun d => ptr d.rs) (pres ds) (ins ds)) := hS6
                have hT6 : Hid (IsTab M3 (wp.heap.size + 3) sRAW 1 sPRE wp.heap.size rpol) := hT6
                have hM6 : Hid (∀ x ∈ M1, x ∈ M3) := hM6
                have hQ6 : Hid (Tabs w (lay4 wp sRAW 1 sPRE rpol) M3 (.slice (some ⟨wr.heap.size + 4, 0, none⟩) 1 1) [(wr.heap.size + 3, sFIL)]) := hQ6 _ _ hQ5.out
                have hQn : Hid (Tabs w ((lay4 wp sRAW 1 sPRE rpol).alloc (.cells #[ptr (wp.heap.size + 3), ptr (wr.heap.size + 3)] 29)) M3 (.slice (some ⟨wp.heap.size + 4, 0, none⟩) 2 2) [(wp.heap.size + 3, sRAW), (wr.heap.size + 3, sFIL)]) := by
                  have := Tabs.new (w := w) hS6.out.1.holds hS6.out.1.base [(wp.heap.size + 3, sRAW), (wr.heap.size + 3, sFIL)] (by simp) (by simp) #[ptr (wp.heap.size + 3), ptr (wr.heap.size + 3)] rfl
                  rw [lay4_size] at this
                  exact this
                go_upto_if 73 with fail
                go_cut [16] (fun s16 wx => ∃ L : List (Nat × ByteArray), Hid (St w wx M3 u7 u8 u9 (ds.map fun d => ptr d.rs) (pres ds) (ins ds)) ∧ Hid (Tabs w wx M3 s16 L) ∧ Hid (L = [(wr.heap.size + 3, sFIL), (wp.heap.size + 3, sRAW)] ∨ L = [(wp.heap.size + 3, sRAW), (wr.heap.size + 3, sFIL)]))
                case first =>
                  go_wp2_with (at_builtin; refine wpList_append_own_at _ rfl (.tmp 77) (.tmp 79) 32 rfl w.heap.size 29 i2 (.pointer none) 1 8 Ybaf.underlying32 hi2 hx0 hx1 hx2 rfl (by decide) _ _ _ rfl (hQ6.out.alloc _).1 _ 1 1 [ptr (wp.heap.size + 3)] rfl rfl ?c1 ?c2 ?c3 ?c4 ?c5 ?_)
                  · go_meet
                    exact ⟨_, hS6.out.alloc' _, hQn.out, Hid.mk' (.inr rfl)⟩
                  case c1 => exact one_new (by simp)
                  case c2 => intro u hu; simp at hu; subst hu; rfl
                  case c3 => simp [maxLen]
                  case c4 => simp
                  case c5 => exact (hS6.out.alloc' _).1.base
                  intro v1 w1 hown1 hgrow1 _ hat1
                  have hS8 : Hid (St w w1 M3 u7 u8 u9 (ds.map fun d => ptr d.rs) (pres ds) (ins ds)) := (hS6.out.alloc' _).tabs (hQ6.out.alloc _) hgrow1
                  have hQ8 : Hid (Tabs w w1 M3 v1 ([(wr.heap.size + 3, sFIL)] ++ [(wp.heap.size + 3, sRAW)])) := Tabs.grow (hS6.out.alloc' (.cells #[ptr (wp.heap.size + 3)] 29)).1.holds (hQ6.out.alloc _) (wp.heap.size + 3, sRAW) hown1 (by simpa [lay4] using hat1)
                  clear hown1 hgrow1 hat1
                  go_wp2
                  go_meet
                  exact ⟨_, hS8, hQ8, Hid.mk' (.inl rfl)⟩
                case rest =>
                  obtain ⟨L, hS7, hQ7, hL7⟩ := hcut
                  clear hS hS2 hQ hS5 hQ5 hS6 hQ6 hQn
                  have hr := hrpol.out
                  clear hrpol
                  cases pre with
                  | false =>
                    obtain rfl : rpol = ⟨#[]⟩ := hr
                    go_wp2
                    go_meet
                    exact ⟨M3, L, wp.heap.size + 3, wp.heap.size, true, false, hS7.out.no1 _ rfl, hQ7, hM6, Hid.mk' (fun _ => hT6.out), Hid.mk' (fun h => by cases h), Hid.mk' (fun _ => hL7.out)⟩
                  | true =>
                    obtain rfl : rpol = ⟨#[68, 82, 79, 80]⟩ := hr
                    go_wp2_with (at_builtin; refine wpList_append_own_at _ rfl (.tmp 83) (.tmp 85) 24 rfl w.heap.size 25 i0 (.pointer none) 1 8 Ybaf.underlying24 hi0 hz0 hz1 hz2 rfl (by decide) _ _ _ rfl (hS7.out.alloc' _).1.o1 _ 1 1 [ptr wp.heap.size] rfl rfl ?c1 ?c2 ?c3 ?c4 ?c5 ?_)
                    case c1 => exact one_new (by simp)
                    case c2 => intro u hu; simp at hu; subst hu; rfl
                    case c3 => have := pres_len ds; have := hD.out; unfold maxLen; omega
                    case c4 => have := pres_len ds; have := hD.out; omega
                    case c5 => exact (hS7.out.alloc' _).1.base
                    intro v1 w1 hown1 hgrow1 _ hat1
                    have hS8 : Hid (St w w1 M3 u7 v1 u9 (ds.map fun d => ptr d.rs) (pres ds ++ [ptr wp.heap.size]) (ins ds)) := (hS7.out.alloc' _).grow1 hown1 hgrow1 (by simpa using hat1)
                    have hQ8 : Hid (Tabs w w1 M3 u16 L) := (hQ7.out.alloc _).kept (hS7.out.alloc' _).1.o1 (by decide) hgrow1
                    clear hown1 hgrow1 hat1
                    go_wp2
                    go_meet
                    exact ⟨M3, L, wp.heap.size + 3, wp.heap.size, true, true, hS8.out.yes1 rfl, hQ8, hM6, Hid.mk' (fun _ => hT6.out), Hid.mk' (fun h => by cases h), Hid.mk' (fun _ => hL7.out)⟩
            · go_wp2
              go_meet
              exact ⟨M1, [(wr.heap.size + 3, sFIL)], 0, 0, false, false, (hS2.out.alloc' _).no1 _ rfl, hQ.out, Hid.mk' (fun x hx => hx), Hid.mk' (fun h => by cases h), Hid.mk' (fun _ => rfl), Hid.mk' (fun h => by cases h)⟩
          case rest =>
            obtain ⟨M2, L, rb, preb, raw, pre, hS3, hQ3, hM3, hR3, hL0, hL1⟩ := hcut
            clear hS hS2 hQ
            obtain ⟨wp, hwp⟩ : ∃ wp, wp = wc := ⟨_, rfl⟩
            subst hwp
            go_upto_region 28 with fail
            go_cut [92] (fun s92 wx => wp = wx ∧ s92 = .bool (held && inp))
            case first =>
              have hl := hline.out
              have hp := hpol.out
              clear hline hpol
              cases held with
              | false =>
                obtain rfl : line = 0 := hl
                go_wp2
                go_meet
                exact ⟨rfl, rfl⟩
              | true =>
                obtain rfl : line = 1 := hl
                cases inp with
                | false =>
                  obtain rfl : pol = ⟨#[]⟩ := hp
                  go_wp2
                  go_meet
                  exact ⟨rfl, rfl⟩
                | true =>
                  obtain rfl : pol = ⟨#[65, 67, 67, 69, 80, 84]⟩ := hp
                  go_wp2
                  go_meet
                  exact ⟨rfl, rfl⟩
            case rest =>
              obtain ⟨rfl, rfl⟩ := hcut
              go_upto_if 92 with fail
              go_cut [9] (fun s9 wx => Hid (St w wx M2 u7 u8 s9 (ds.map fun d => ptr d.rs) (pres ds ++ if raw && pre then [ptr preb] else []) (ins ds ++ if held && inp then [ptr wr.heap.size] else [])) ∧ Hid (Tabs w wx M2 u16 L))
              case first =>
                cases hb2 : (held && inp) with
                | false =>
                  go_wp2
                  go_meet
                  exact ⟨hS3.out.no2 _ hb2, hQ3⟩
                | true =>
                  go_wp2_with (at_builtin; refine wpList_append_own_at _ rfl (.tmp 93) (.tmp 95) 24 rfl w.heap.size 25 i0 (.pointer none) 1 8 Ybaf.underlying24 hi0 hz0 hz1 hz2 rfl (by decide) _ _ _ rfl (hS3.out.alloc' _).1.o2 _ 1 1 [ptr wr.heap.size] rfl rfl ?c1 ?c2 ?c3 ?c4 ?c5 ?_)
                  case c1 => exact one_new (by simp)
                  case c2 => intro u hu; simp at hu; subst hu; rfl
                  case c3 => have := ins_len ds; have := hD.out; unfold maxLen; omega
                  case c4 => have := ins_len ds; have := hD.out; omega
                  case c5 => exact (hS3.out.alloc' _).1.base
                  intro v1 w1 hown1 hgrow1 _ hat1
                  have hS8 : Hid (St w w1 M2 u7 u8 v1 (ds.map fun d => ptr d.rs) (pres ds ++ if raw && pre then [ptr preb] else []) (ins ds ++ [ptr wr.heap.size])) := (hS3.out.alloc' _).grow2 hown1 hgrow1 (by simpa using hat1)
                  have hQ8 : Hid (Tabs w w1 M2 u16 L) := (hQ3.out.alloc _).kept (hS3.out.alloc' _).1.o2 (by decide) hgrow1
                  clear hown1 hgrow1 hat1
                  go_wp2
                  go_meet
                  exact ⟨hS8.out.yes2 hb2, hQ8⟩
              case rest =>
                obtain ⟨hS4, hQ4⟩ := hcut
                obtain ⟨wq, hwq⟩ : ∃ wq, wq = wc := ⟨_, rfl⟩
                subst hwq
                have hLn : 0 < L.length := by
                  cases hraw : raw with
                  | false => rw [hL0.out hraw]; simp
                  | true => rcases hL1.out hraw with rfl | rfl <;> simp
                obtain ⟨g, cap', hv, _⟩ := owns_row hQ4.out.1 hLn
                subst hv
                obtain ⟨M5, hS8, hM8, hI8⟩ := hS4.out.close hQ4.out
                have hS8 : Hid (St w (wq.alloc (setO g L.length cap')) M5 u7 u8 u9 (ds.map fun d => ptr d.rs) (pres ds ++ if raw && pre then [ptr preb] else []) (ins ds ++ if held && inp then [ptr wr.heap.size] else [])) := hS8
                have hM8 : Hid (∀ x ∈ M2, x ∈ M5) := hM8
                have hI8 : Hid (IsSet M5 wq.heap.size L) := hI8
                clear hS3 hQ3
                go_wp2_with (at_builtin; refine wpList_append_own_at _ rfl (.tmp 97) (.tmp 101) 23 rfl w.heap.size 33 i1 (.pointer none) 1 8 Ybaf.underlying23 hi1 hy0 hy1 hy2 rfl (by decide) _ _ _ rfl (hS8.out.alloc' _).1.o0 _ 1 1 [ptr wq.heap.size] rfl rfl ?c1 ?c2 ?c3 ?c4 ?c5 ?_)
                case c1 => exact one_new (by simp)
                case c2 => intro u hu; simp at hu; subst hu; rfl
                case c3 => have := hD.out; simp only [List.length_map]; unfold maxLen; omega
                case c4 => have := hD.out; simp only [List.length_map]; omega
                case c5 => exact (hS8.out.alloc' _).1.base
                intro v1 w1 hown1 hgrow1 _ hat1
                have hS9 : Hid (St w w1 M5 v1 u8 u9 ((ds.map fun d => ptr d.rs) ++ [ptr wq.heap.size]) (pres ds ++ if raw && pre then [ptr preb] else []) (ins ds ++ if held && inp then [ptr wr.heap.size] else [])) := (hS8.out.alloc' (.cells #[ptr wq.heap.size] 33)).grow0 (by rw [List.length_map]; exact hown1) hgrow1 (by simpa using hat1)
                clear hown1 hgrow1 hat1 hS8
                go_wp2
                go_roundg (n - (k + 1))
                case measure => omega
                case rel =>
                  refine ⟨k + 1, M5, ds ++ [⟨wq.heap.size, wr.heap.size, preb, raw, pre, held, inp⟩], by omega, Nat.le_refl _, rfl, ?_, ?_, ?_⟩
                  · show St _ _ _ _ _ _ _ _ _
                    rw [pres_snoc, ins_snoc, List.map_append]
                    exact hS9.out
                  · intro d hd
                    rcases List.mem_append.1 hd with hd | hd
                    · exact (hB.out d hd).mono fun x hx => hM8.out x (hM3.out x (hM2.out x hx))
                    · simp at hd
                      subst hd
                      refine ⟨wr.heap.size + 3, rb, L, hI8.out, ?_, fun h => (hR3.out h).mono hM8.out, hL0.out, hL1.out⟩
                      have h1 := hT2.out.mono (fun x hx => hM8.out x (hM3.out x hx))
                      rw [hline.out, hpol.out] at h1
                      exact h1
                  · show _ = _
                    simp [hD.out]
    · have hge : ¬ ((k : Int) < (n : Int)) := by omega
      have hDn : Hid (n = ds.length) := by show _ = _; have := hD.out; omega
      obtain ⟨ao7, cap7, hv7, _, hc7⟩ := owns_any hS.out.1.o0
      have hC7 : Hid (∀ (j : Nat) (u : Value), (ds.map fun d => ptr d.rs)[j]? = some u → ∃ g, ao7 = some ⟨g, 0, none⟩ ∧ w.heap.size ≤ g ∧ wr.cell? ⟨g, j, none⟩ = some u) := hc7
      clear hc7
      subst hv7
      obtain ⟨ao9, cap9, hv9, _⟩ := owns_any hS.out.1.o2
      subst hv9
      simp only [List.length_map] at hS ⊢
      go_upto_block 2 with fail
      go_cut [21] (fun s21 wx => (wr.alloc (.cells #[.slice ao7 ds.length cap7, .int .u8 0, .map none, .map none, .pointer none] 44)) = wx ∧ ∃ ao : ByteArray, s21 = .string ao)
      case first =>
        go_wp2
        all_goals go_meet
        all_goals exact ⟨rfl, _, rfl⟩
      case rest =>
        obtain ⟨rfl, ao, rfl⟩ := hcut
        clear hge
        by_cases hao : ao = sLO
        · obtain rfl : ao = ⟨#[108, 111]⟩ := hao
          obtain ⟨x0, x1, x2, x3, x4, x5⟩ := wx_facts wr (.slice ao7 ds.length cap7) out ⟨#[108, 111]⟩
          have hX : Hid (Below wr.heap.size wr (Wx wr (.slice ao7 ds.length cap7) out ⟨#[108, 111]⟩)) := x0
          have k1 : Hid ((Wx wr (.slice ao7 ds.length cap7) out ⟨#[108, 111]⟩).cell? ⟨wr.heap.size + 2, 0, none⟩ = some (ptr (wr.heap.size + 1))) := x3
          have k2 : Hid ((Wx wr (.slice ao7 ds.length cap7) out ⟨#[108, 111]⟩).cell? ⟨wr.heap.size + 4, 0, none⟩ = some (ptr (wr.heap.size + 3))) := x4
          have hX2 : Hid (Below w.heap.size w (Wx wr (.slice ao7 ds.length cap7) out ⟨#[108, 111]⟩)) := below_next hS.out.2 hS.out.1.base hX.out
          have hlen : ds.length ≤ 256 := by have := hDn.out; omega
          have hC := loop_lo F wr.heap.size (wr.heap.size + 2) (wr.heap.size + 4) (wr.heap.size + 6) ds.length cap7 ao7 M ds out (Wx wr (.slice ao7 ds.length cap7) out ⟨#[108, 111]⟩) (hX2.out.tape ▸ HF.out) rfl hlen x1 x2 (hS.out.1.holds.below hX.out) bm
            ((hX2.out.cell (p := ⟨0, 0, none⟩) (block_lt_of_cell HK.out.1)).trans HK.out.1) (fun w' hw' => HK.out.2 w' (below_next hX2.out hX2.out.size hw')) hB.out (fun j d hj => by
              obtain ⟨g, hg1, hg2, hg3⟩ := hC7.out j (ptr d.rs) (by rw [List.getElem?_map, hj]; rfl)
              have hgl : g < wr.heap.size := block_lt_of_cell hg3
              exact ⟨g, hg1, (hX.out.cell (p := ⟨g, j, none⟩) hgl).trans hg3, Nat.lt_of_lt_of_le hgl hX.out.size⟩)
          clear x0 x1 x2 x3 x4 x5
          go_wp2_with fail
          refine hC.mono ?_
          rintro e w2 ⟨v, err, rfl, hb2, hown2, herr⟩
          clear hC
          simp only [sLO, sl]
          have hb2 : Hid (Below (Wx wr (.slice ao7 ds.length cap7) out ⟨#[108, 111]⟩).heap.size (Wx wr (.slice ao7 ds.length cap7) out ⟨#[108, 111]⟩) w2) := hb2
          have q1 := Hid.mk' ((hb2.out.cell (p := ⟨wr.heap.size + 2, 0, none⟩) (by rw [wx_size]; show _ < _; simp)).trans k1.out)
          have q2 := Hid.mk' ((hb2.out.cell (p := ⟨wr.heap.size + 4, 0, none⟩) (by rw [wx_size]; show _ < _; simp)).trans k2.out)
          clear k1 k2
          have hbA : Hid (Below w.heap.size w w2) := below_next hX2.out hX2.out.size hb2.out
          have O8 := Hid.mk' (owns_below (owns_below hS.out.1.o1 hX.out) hb2.out)
          have O9 := Hid.mk' (owns_below (owns_below hS.out.1.o2 hX.out) hb2.out)
          rw [List.length_append] at hown2
          obtain ⟨va, vcap, hv, _⟩ := owns_any hown2
          subst hv
          have OV := Hid.mk' hown2
          have HE : Hid (Err ds err) := herr
          clear hown2 herr
          go_wp2_with fail
          refine (same_one _ _ _ (Lib.cell?_alloc_some _ q1.out)).mono ?_
          rintro e w3 ⟨rfl, m1, rfl⟩
          go_wp2_with fail
          refine (same_one _ _ _ (dn (Lib.cell?_alloc_some _ q2.out))).mono ?_
          rintro e w3 ⟨rfl, m2, rfl⟩
          go_wp2_with (at_builtin; refine wpList_join _ rfl (.tmp 169) (.tmp 170) 24 rfl w.heap.size w.heap.size 25 i0 (.pointer none) 8 Ybaf.underlying24 hi0 hz0 hz1 hz2 rfl _ _ 0 (pres ds).length [] (pres ds) rfl rfl ?o1 ?o2 ?c2 ?c3 ?c4 ?c5 ?_)
          case o1 => exact owns_empty _ _ _ (by simp) (by have := hbA.out.size; simp; omega)
          case o2 => exact (owns_drewN (O8.out.alloc _)).alloc _
          case c2 => intro u hu; simp only [pres, List.mem_map] at hu; obtain ⟨_, _, rfl⟩ := hu; rfl
          case c3 => have := pres_len ds; unfold maxLen; omega
          case c4 => have := pres_len ds; omega
          case c5 => have := hbA.out.size; simp; omega
          intro vA wA hownA hgrowA hatA
          have bA : Hid (Below w2.heap.size w2 wA) := ((below_drewN ((Below.refl _ w2).alloc (Nat.le_refl _) _) _).alloc (by simp) _).grown hgrowA (by simp; omega) (fun k hk => by simp [Value.ownBlock] at hk; omega)
          have hGA : Hid (wA.heap[w2.heap.size]? = some (.cells #[.slice (some ⟨wr.heap.size + 2, 0, none⟩) 1 1, .slice (some ⟨wr.heap.size + 4, 0, none⟩) 1 1, .slice va ((pres ds).length + (ins ds).length) vcap, .string out, .string ⟨#[108, 111]⟩] 46 (0, 0))) := by
            show _ = _
            rw [hgrowA.block _ (by simp; omega) (by simp [Value.ownBlock]), Below.heap_alloc _ _ _ (by simp)]
            exact heap_alloc_new w2 _
          have O9A := Hid.mk' (owns_below O9.out bA.out)
          have hsA : w2.heap.size + 2 ≤ wA.heap.size := by have := hgrowA.size; simp at this; omega
          have OA : Hid (wA.ownsRow w.heap.size 25 1 vA (pres ds).length (pres ds)) := hownA
          have AT : Hid (∀ q, vA.ownBlock = some q → w2.heap.size + 1 ≤ q) := by
            intro q hq
            rcases hatA with h | h
            · rw [h] at hq; simp [Value.ownBlock] at hq; omega
            · rw [h] at hq; simp at hq; omega
          clear hownA hgrowA hatA
          go_wp2_with (at_builtin; refine wpList_join _ rfl (.tmp 171) (.tmp 172) 24 rfl w.heap.size w.heap.size 25 i0 (.pointer none) 8 Ybaf.underlying24 hi0 hz0 hz1 hz2 rfl _ _ (pres ds).length (ins ds).length (pres ds) (ins ds) rfl rfl OA.out O9A.out ?c2 ?c3 ?c4 ?c5 ?_)
          case c2 => intro u hu; simp only [ins, List.mem_map] at hu; obtain ⟨_, _, rfl⟩ := hu; rfl
          case c3 => have := pres_len ds; have := ins_len ds; unfold maxLen; omega
          case c4 => have := pres_len ds; have := ins_len ds; omega
          case c5 => have := hbA.out.size; omega
          intro vB wB hownB hgrowB hatB
          have bB : Hid (Below w2.heap.size w2 wB) := bA.out.grown hgrowB bA.out.size (fun q hq => by have := AT.out q hq; omega)
          have hGB : wB.heap[w2.heap.size]? = some (.cells #[.slice (some ⟨wr.heap.size + 2, 0, none⟩) 1 1, .slice (some ⟨wr.heap.size + 4, 0, none⟩) 1 1, .slice va ((pres ds).length + (ins ds).length) vcap, .string out, .string ⟨#[108, 111]⟩] 46 (0, 0)) := by
            rw [hgrowB.block _ (by omega) (fun e => by have := AT.out _ e.symm; omega)]
            exact hGA.out
          have c2 := blk_cell hGB 2
          simp at c2
          have hsame := same_own (ptrs ds) (by have := pres_len ds; have := ins_len ds; simp; omega) (List.length_append).symm (owns_below OV.out bB.out) hownB
          have hbB : Hid (Below w.heap.size w wB) := below_next hbA.out hbA.out.size bB.out
          clear hownB hgrowB hatB hGB
          go_wp2_with fail
          refine hsame.mono ?_
          rintro e w4 ⟨rfl, m3, rfl⟩
          clear hsame c2
          rcases HE.out with ⟨hnil, a, rfl⟩ | ⟨hnn, rfl⟩
          · have hi9 : (ins ds).length ≤ 0 := by rw [hnil]; simp
            have hi9b : ¬ (0 : Int) < ((ins ds).length : Int) := by omega
            clear hnil
            go_wp2
            go_ret
            refine ⟨?_, below_drewN hbB.out _⟩
            show Ending.returned (.bool (!decide (0 < (ins ds).length))) = _
            rw [decide_eq_false (by omega)]
            rfl
          · have hi9 : 0 < (ins ds).length := List.length_pos_iff.2 hnn
            have hi9b : (0 : Int) < ((ins ds).length : Int) := by omega
            clear hnn
            go_wp2
            go_ret
            exact ⟨rfl, below_drewN hbB.out _⟩
        · have hne : (ao.toList == [108, 111]) = false := by
            have := (Lib.bytes_beq_false_iff ao sLO).2 hao
            rwa [show sLO.toList = [108, 111] by rw [ByteArray.toList_eq]; rfl] at this
          obtain ⟨x0, x1, x2, x3, x4, x5⟩ := wx_facts wr (.slice ao7 ds.length cap7) out ao
          have hX : Hid (Below wr.heap.size wr (Wx wr (.slice ao7 ds.length cap7) out ao)) := x0
          have k1 : Hid ((Wx wr (.slice ao7 ds.length cap7) out ao).cell? ⟨wr.heap.size + 2, 0, none⟩ = some (ptr (wr.heap.size + 1))) := x3
          have k2 : Hid ((Wx wr (.slice ao7 ds.length cap7) out ao).cell? ⟨wr.heap.size + 4, 0, none⟩ = some (ptr (wr.heap.size + 3))) := x4
          have k3 : Hid ((Wx wr (.slice ao7 ds.length cap7) out ao).cell? ⟨wr.heap.size + 6, 0, none⟩ = some (ptr (wr.heap.size + 5))) := x5
          clear x0 x1 x2 x3 x4 x5
          go_wp2_with fail
          refine (loop_no _ _ _ _ _ _ _ hao).mono ?_
          rintro e w2 ⟨rfl, hb2⟩
          have hb2 : Hid (Below (Wx wr (.slice ao7 ds.length cap7) out ao).heap.size (Wx wr (.slice ao7 ds.length cap7) out ao) w2) := hb2
          have q1 := Hid.mk' ((hb2.out.cell (p := ⟨wr.heap.size + 2, 0, none⟩) (by rw [wx_size]; show _ < _; simp)).trans k1.out)
          have q2 := Hid.mk' ((hb2.out.cell (p := ⟨wr.heap.size + 4, 0, none⟩) (by rw [wx_size]; show _ < _; simp)).trans k2.out)
          have q3 := Hid.mk' ((hb2.out.cell (p := ⟨wr.heap.size + 6, 0, none⟩) (by rw [wx_size]; show _ < _; simp)).trans k3.out)
          clear k1 k2 k3
          have hbA : Hid (Below w.heap.size w w2) := below_next (below_next hS.out.2 hS.out.1.base hX.out) (Nat.le_trans hS.out.1.base hX.out.size) hb2.out
          go_wp2_with fail
          refine (same_one _ _ _ (Lib.cell?_alloc_some _ q1.out)).mono ?_
          rintro e w3 ⟨rfl, m1, rfl⟩
          go_wp2_with fail
          refine (same_one _ _ _ (dn (Lib.cell?_alloc_some _ q2.out))).mono ?_
          rintro e w3 ⟨rfl, m2, rfl⟩
          go_wp2_with fail
          refine (same_one _ _ _ (dn (Lib.cell?_alloc_some _ q3.out))).mono ?_
          rintro e w3 ⟨rfl, m3, rfl⟩
          go_wp2
          go_ret
          exact ⟨rfl, below_drewN (hbA.out.alloc hbA.out.size _) _⟩

end Go.Proofs.YbulkalbgFmt.Law
