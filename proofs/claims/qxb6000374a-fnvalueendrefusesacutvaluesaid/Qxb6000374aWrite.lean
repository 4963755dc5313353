import Derived.Test.Qxb6000374aWr
import Derived.Test.Qxb6000374aCat
import Derived.Deep.CutRange
import Derived.Deep.DeepCutAuto
namespace Go.Proofs.Qxb6000374a
open Go.RowKit
set_option linter.unusedVariables false

theorem owns_new (w : World) (B t n : Nat) (vs : List Value) (hB : B ≤ w.heap.size) (hn : vs.length = n) (hm : n ≤ 1048576) : (w.alloc (.cells vs.toArray t)).ownsRow B t 1 (.slice (some ⟨w.heap.size, 0, none⟩) n n) n vs := by
  refine ⟨by omega, Or.inr ⟨w.heap.size, n, vs.toArray, rfl, hB, ?_, Nat.le_refl _, by unfold maxLen; omega, by simp [hn], by simp [← hn]⟩⟩
  show (w.heap.push _)[w.heap.size]? = _
  simp

theorem owns_cap {w : World} {B e g n cap : Nat} {xs : List Value} (h : w.ownsRow B e 1 (.slice (some ⟨g, 0, none⟩) n cap) n xs) : n ≤ cap := by
  rcases h.2 with ⟨h', _⟩ | ⟨g', cap', cur, h', _, _, hc, _⟩
  · simp at h'
  · simp only [Value.slice.injEq, Option.some.injEq, Addr.mk.injEq, and_true, true_and] at h'
    obtain ⟨rfl, rfl⟩ := h'
    exact hc

theorem Wv.start {w w1 : World} {go co : Nat} (ho : w1.ownsRow w.heap.size 5 1 (.slice (some ⟨go, 0, none⟩) 1 co) 1 (intsV [91])) (hb : Below w.heap.size w w1) :
    Wv w ((w1.alloc (.cells #[.int .u8 91] 5)).alloc (.cells #[.bool true] 4)) 1 go co 1 w1.heap.size 1 1 (w1.heap.size + 1) 1 [91] [91] [true] := by
  have l := owns_lt ho
  have hs := hb.size
  have k1 := owns_new w1 w.heap.size 5 1 (intsV [91]) hs rfl (by omega)
  have f1 := owns_new (w1.alloc (.cells (intsV [91]).toArray 5)) w.heap.size 4 1 (boolsV [true]) (by simp; omega) rfl (by omega)
  have e : (w1.alloc (.cells (intsV [91]).toArray 5)).heap.size = w1.heap.size + 1 := by simp
  rw [e] at f1
  exact ⟨(ho.alloc _).alloc _, k1.alloc _, f1, by omega, by omega, by omega, (hb.alloc hs _).alloc (by simp; omega) _⟩

/-- What holds at the head of the great loop, k bytes of the program read. -/
def Head (w : World) (n k : Nat) (v3 v4 v5 v6 : Value) (wr : World) : Prop :=
  ∃ (no go co nk gk ck gf cf : Nat) (xs ks : List Int) (fs : List Bool), v3 = .slice (some ⟨go, 0, none⟩) no co ∧ v4 = .slice (some ⟨gk, 0, none⟩) nk ck ∧ v5 = .slice (some ⟨gf, 0, none⟩) nk cf ∧ v6 = .int .i64 k ∧
    k ≤ n ∧ 1 ≤ nk ∧ nk ≤ k + 1 ∧ no ≤ 12 * k + 1 ∧ Pl.Tx xs nk 0 ∧ Wv w wr no go co nk gk ck nk gf cf xs ks fs

set_option maxRecDepth 100000 in
set_option maxHeartbeats 1600000 in
theorem write_any (ao : Option Addr) (n : Nat) (f : Nat → Int) (w : World) (hn : n ≤ 65536) (hf : ∀ i, 0 ≤ f i ∧ f i ≤ 255) (hA : Src w ao n f) :
    Calls Try.prog 21 #[.slice ao n n] w fun e w' => ∃ (N g c : Nat) (xs : List Int), e = .returned (.slice (some ⟨g, 0, none⟩) N c) ∧ N ≤ c ∧ N ≤ 1048576 ∧ xs.length = N ∧ Pl.Fin xs ∧ Row w' g 0 N (fun i => xs.getD i 0) ∧ Below w.heap.size w w' := by
  obtain ⟨i0, hi, hz0, hz1, hz2⟩ := info_parts info5
  have HF : Hid (∀ i, 0 ≤ f i ∧ f i ≤ 255) := hf
  clear hf
  go_enter Try.func21, Try.ntmps21
  go_wp2_with (at_make; refine wpList_make_own _ rfl _ _ 22 rfl w.heap.size 5 i0 (.int .u8 0) 1 Try.underlying22 hi hz0 hz1 _ _ _ 64 rfl rfl rfl (by rw [hz2]; omega) (by unfold maxLen; omega) (Nat.le_refl _) ?_)
  intro w1 hown1 hgrow1
  have hbel1 : Below w.heap.size w w1 := (Below.refl _ _).grown hgrow1 (Nat.le_refl _) (by intro k h; cases h)
  have hA1 := hown1.alloc (.cells #[.int .u8 91] 5)
  have hB1 := hbel1.alloc hbel1.size (.cells #[.int .u8 91] 5)
  have hS1 := hB1.size
  go_wp2_with (at_builtin; refine append_one _ rfl (.tmp 13) (.tmp 14) 22 rfl w.heap.size 5 i0 (.int .u8 0) Try.underlying22 hi hz0 hz1 hz2 rfl w.heap.size 0 64 [] rfl hA1 ⟨w1.heap.size, 0, none⟩ 1 1 (intsV [91]) rfl rfl (new_cells w1 (intsV [91]) 5) (intsV_one _) (by omega) (by omega) hS1 ?_)
  intro go co w2 ho hg _
  have hbel2 : Below w.heap.size w w2 := hB1.grown hg hS1 (by intro k h; cases h; exact Nat.le_refl _)
  have hW : Wv w ((w2.alloc (.cells #[.int .u8 91] 5)).alloc (.cells #[.bool true] 4)) 1 go co 1 w2.heap.size 1 1 (w2.heap.size + 1) 1 [91] [91] [true] := Wv.start ho hbel2
  clear hown1 hgrow1 hbel1 hA1 hB1 hS1 ho hg hbel2
  go_wp2
  go_loopg [3, 4, 5, 6] n (fun j v3 v4 v5 v6 wr => ∃ k : Nat, k + j = n ∧ Head w n k v3 v4 v5 v6 wr)
  case atStart => exact ⟨0, by omega, 1, go, co, 1, w2.heap.size, 1, w2.heap.size + 1, 1, [91], [91], [true], rfl, rfl, rfl, rfl, by omega, by omega, by omega, by omega, Pl.tx_start, hW⟩
  case round =>
    clear hW
    obtain ⟨k, hkj, no, go, co, nk, gn, cn, gf, cf, xs, ks, fs, rfl, rfl, rfl, rfl, hkn, hnk1, hnk2, hno, hT, hW⟩ := hrel
    by_cases hlt : k < n
    · rcases hA with ⟨_, h0⟩ | ⟨b, rfl, hb, hrow⟩
      · omega
      have hcp : wr.cell? ⟨b, k, none⟩ = some (.int .u8 (f k)) := by
        have := hrow k hlt
        rw [Nat.zero_add] at this
        exact (hW.bel.cell (p := ⟨b, k, none⟩) hb).trans this
      have HKJ : Hid (k + gk = n) := hkj
      have hgk : 0 < gk := by omega
      have hfb := HF.out k
      obtain ⟨t, rfl⟩ : ∃ t, nk = t + 1 := ⟨nk - 1, by omega⟩
      have hck : t + 1 ≤ cn := owns_cap hW.k
      have hcf : t + 1 ≤ cf := owns_cap hW.f
      have hcellK := hW.cellK t (by omega)
      generalize ks.getD t 0 = kv at hcellK
      generalize hfk : f k = bb at hcp hfb
      clear hkj hfk
      by_cases h2 : bb % 6 = 2
      · have c2 := btrue h2
        clear h2
        by_cases ht : t = 0
        · subst ht
          go_wp2
          go_roundg (gk - 1)
          case measure => omega
          case rel => exact ⟨k + 1, by have := HKJ.out; omega, no, go, co, 1, gn, cn, gf, cf, xs, ks, fs, rfl, rfl, rfl, by go_num, by omega, by omega, by omega, by omega, hT, hW⟩
        · have ht0 : 0 < t := by omega
          clear ht
          go_wp2_with fail
          refine (closeB_any w no go co (t + 1) gn cn (t + 1) gf cf xs ks fs kv wr (by omega) hW).mono ?_
          rintro e w' ⟨no', go', co', rfl, hno', c, hc, hW'⟩
          have hW2 := hW'.popK.popF
          have hb' : no' ≤ 12 * (k + 1) + 1 := by have := hno'.out; omega
          have HT' : Pl.Tx (xs ++ [c]) (t : Int) 0 := by
            have := hT.shuts (by omega) hc
            rwa [show ((t + 1 : Nat) : Int) - 1 = (t : Int) from by omega] at this
          clear hW hW' hT hcellK hcp hno'
          go_wp2
          go_roundg (gk - 1)
          case measure => omega
          case rel => exact ⟨k + 1, by have := HKJ.out; omega, no', go', co', t, gn, cn, gf, cf, xs ++ [c], _, _, rfl, rfl, rfl, by go_num, by omega, by omega, by omega, hb', HT', hW2⟩
      · have c2 := bfalse h2
        have hcellF := hW.cellF t (by omega)
        generalize fs.getD t false = fv at hcellF
        go_upto_if 53 with fail
        clear hcp
        go_cut [3] from 18 to 156 (fun v3 wx => ∃ (no' go' co' : Nat) (xs' : List Int), v3 = .slice (some ⟨go', 0, none⟩) no' co' ∧ no' ≤ no + 1 ∧ Pl.Tx xs' ((t + 1 : Nat) : Int) 0 ∧ Wv w wx no' go' co' (t + 1) gn cn (t + 1) gf cf xs' ks fs)
        case first =>
          cases fv with
          | true =>
            go_wp2
            go_meet
            case rel => exact ⟨no, go, co, xs, rfl, by omega, hT, hW⟩
          | false =>
            go_wp2_with (at_builtin; refine app_out hW [44] 1 rfl (by omega) (by omega) (by omega) (.tmp 54) (.tmp 55) rfl rfl rfl rfl ?_)
            intro no' go' co' w' hn' R
            have hb' : no' ≤ no + 1 := by have := hn'.out; omega
            clear hn'
            go_wp2
            go_meet
            case rel => exact ⟨no', go', co', _, rfl, hb', hT.dull (by omega) (by simp [Pl.Dull]), R⟩
        case rest =>
          clear hcellF hcellK hW hT
          obtain ⟨no1, go1, co1, xs1, rfl, hno1, hT1, hW1⟩ := hcut
          have hW1s := hW1.setF t false
          have hcellK := hW1s.cellK t (by omega)
          have hcellF := hW1.cellF t (by omega)
          have hfrF := hW1.f.frozenAt t
          generalize ks.getD t 0 = kv2 at hcellK
          generalize fs.getD t false = fv2 at hcellF
          clear hW1
          go_upto_if 64 with fail
          clear hcellF hfrF hcellK
          generalize wc.setCell ⟨gf, t, none⟩ (.bool false) = wd at hW1s ⊢
          go_cut [3] from 18 to 156 (fun v3 wx => ∃ (no' go' co' : Nat) (xs' : List Int), v3 = .slice (some ⟨go', 0, none⟩) no' co' ∧ no' ≤ no + 5 ∧ Pl.Tx xs' ((t + 1 : Nat) : Int) 0 ∧ Wv w wx no' go' co' (t + 1) gn cn (t + 1) gf cf xs' ks (fs.set t false))
          case first =>
            by_cases hkv : kv2 = 123
            · have ck := btrue hkv
              clear hkv
              go_wp2_with (at_builtin; refine app_out hW1s [34, 107, 34, 58] 4 rfl (by omega) (by omega) (by omega) (.tmp 65) (.tmp 66) rfl rfl rfl rfl ?_)
              intro no' go' co' w' hn' R
              have hb' : no' ≤ no + 5 := by have := hn'.out; omega
              clear hn' hW1s
              go_wp2
              go_meet
              case rel => exact ⟨no', go', co', _, rfl, hb', hT1.key (by omega), R⟩
            · have ck := bfalse hkv
              clear hkv
              go_wp2
              go_meet
              case rel => exact ⟨no1, go1, co1, xs1, rfl, by omega, hT1, hW1s⟩
          case rest =>
            clear hW1s hT1 hno1
            obtain ⟨no2, go2, co2, xs2, rfl, hno2, hT2, hW2⟩ := hcut
            by_cases h0 : bb % 6 = 0
            · have c0 := btrue h0
              clear h0 h2
              go_wp2_with (at_builtin; refine app_out hW2 [123] 1 rfl (by omega) (by omega) (by omega) (.tmp 87) (.tmp 88) rfl rfl rfl rfl ?_)
              intro no3 go3 co3 w3 hn3 R3
              clear hW2
              go_wp2_with (at_builtin; refine app_k R3 123 (by omega) (.tmp 90) (.tmp 91) rfl rfl rfl rfl ?_)
              intro nk4 gn4 cn4 w4 hn4 R4
              clear R3
              go_wp2_with (at_builtin; refine app_f R4 true (by omega) (.tmp 93) (.tmp 94) rfl rfl rfl rfl ?_)
              intro nf5 gf5 cf5 w5 hn5 R5
              have hk4 := hn4.out
              have hf5 := hn5.out
              subst hk4
              subst hf5
              have hb3 : no3 ≤ 12 * (k + 1) + 1 := by have := hn3.out; omega
              clear R4 hn3 hn4 hn5
              go_wp2
              go_roundg (gk - 1)
              case measure => omega
              case rel => exact ⟨k + 1, by have := HKJ.out; omega, no3, go3, co3, t + 1 + 1, gn4, cn4, gf5, cf5, _, _, _, rfl, rfl, rfl, by go_num, by omega, by omega, by omega, hb3, hT2.opens (by omega) (Or.inl rfl), R5⟩
            · have c0 := bfalse h0
              by_cases h1 : bb % 6 = 1
              · have c1 := btrue h1
                clear h1 h0 h2
                go_wp2_with (at_builtin; refine app_out hW2 [91] 1 rfl (by omega) (by omega) (by omega) (.tmp 98) (.tmp 99) rfl rfl rfl rfl ?_)
                intro no3 go3 co3 w3 hn3 R3
                clear hW2
                go_wp2_with (at_builtin; refine app_k R3 91 (by omega) (.tmp 101) (.tmp 102) rfl rfl rfl rfl ?_)
                intro nk4 gn4 cn4 w4 hn4 R4
                clear R3
                go_wp2_with (at_builtin; refine app_f R4 true (by omega) (.tmp 104) (.tmp 105) rfl rfl rfl rfl ?_)
                intro nf5 gf5 cf5 w5 hn5 R5
                have hk4 := hn4.out
                have hf5 := hn5.out
                subst hk4
                subst hf5
                have hb3 : no3 ≤ 12 * (k + 1) + 1 := by have := hn3.out; omega
                clear R4 hn3 hn4 hn5
                go_wp2
                go_roundg (gk - 1)
                case measure => omega
                case rel => exact ⟨k + 1, by have := HKJ.out; omega, no3, go3, co3, t + 1 + 1, gn4, cn4, gf5, cf5, _, _, _, rfl, rfl, rfl, by go_num, by omega, by omega, by omega, hb3, hT2.opens (by omega) (Or.inr rfl), R5⟩
              · have c1 := bfalse h1
                by_cases h3 : bb % 6 = 3
                · have c3 := btrue h3
                  clear h0 h1 h2 h3
                  go_wp2_with (at_builtin; refine app_out hW2 [34] 1 rfl (by omega) (by omega) (by omega) (.tmp 112) (.tmp 113) rfl rfl rfl rfl ?_)
                  intro no3 go3 co3 w3 hn3 R3
                  have hb3 : no3 ≤ 12 * k + 7 := by have := hn3.out; omega
                  have hT3 := hT2.quote (show (1 : Int) ≤ ((t + 1 : Nat) : Int) by omega)
                  obtain ⟨q0, hq0⟩ : ∃ q0 : Nat, bb / 8 = (q0 : Int) := Int.eq_ofNat_of_zero_le (by omega)
                  rw [hq0]
                  have hq1 : q0 ≤ 31 := by omega
                  clear hW2 hn3 hT2 hno2 hq0
                  obtain ⟨G, rfl⟩ : ∃ G, G = gk := ⟨gk, rfl⟩
                  go_wp2
                  go_loopg [3, 6, 10] q0 (fun j v3 v6 v10 wr => ∃ (i no' go' co' : Nat) (xs' : List Int), v3 = .slice (some ⟨go', 0, none⟩) no' co' ∧ v6 = .int .i64 i ∧ v10 = .int .i64 j ∧ j ≤ 31 ∧ k + 1 ≤ i ∧ i ≤ n ∧ no' ≤ 12 * k + 7 + 6 * (i - (k + 1)) ∧ Pl.Tx xs' ((t + 1 : Nat) : Int) 1 ∧ Wv w wr no' go' co' (t + 1) gn cn (t + 1) gf cf xs' ks (fs.set t false))
                  case atStart => exact ⟨k + 1, no3, go3, co3, _, rfl, by go_num, rfl, hq1, by omega, by omega, by omega, hT3, R3⟩
                  case round =>
                    clear R3 hT3 hb3
                    obtain ⟨i, no4, go4, co4, xs4, rfl, rfl, rfl, hg31, hki, hin, hno4, hT4, hW4⟩ := hrel
                    by_cases hgo : 0 < gk ∧ i < n
                    · obtain ⟨hg0, hin2⟩ := hgo
                      have hcp : wr.cell? ⟨b, i, none⟩ = some (.int .u8 (f i)) := by
                        have := hrow i hin2
                        rw [Nat.zero_add] at this
                        exact (hW4.bel.cell (p := ⟨b, i, none⟩) hb).trans this
                      have hfi := HF.out i
                      go_wp2_with fail
                      refine (wsb_any w no4 go4 co4 (t + 1) gn cn (t + 1) gf cf xs4 ks (fs.set t false) (f i) wr hfi.1 hfi.2 (by omega) hW4).mono ?_
                      rintro e w' ⟨no5, go5, co5, rfl, hn5, bs, hbs, hW5⟩
                      have hb5 : no5 ≤ 12 * k + 7 + 6 * (i + 1 - (k + 1)) := by have := hn5.out; omega
                      have hT5 := hbs xs4 _ (show (1 : Int) ≤ ((t + 1 : Nat) : Int) by omega) hT4
                      clear hW4 hT4 hcp hn5 hbs
                      go_wp2
                      go_roundg (gk - 1)
                      case measure => omega
                      case rel => exact ⟨i + 1, no5, go5, co5, _, rfl, by go_num, by go_num, by omega, by omega, by omega, hb5, hT5, hW5⟩
                    · have hcase : gk = 0 ∨ (0 < gk ∧ ¬ i < n) := by omega
                      clear hgo
                      rcases hcase with hg0 | ⟨hg0, hin2⟩
                      all_goals
                        try subst hg0
                        go_wp2_with (at_builtin; refine app_out hW4 [34] 1 rfl (by omega) (by omega) (by omega) (.tmp 133) (.tmp 134) rfl rfl rfl rfl ?_)
                        intro no5 go5 co5 w5 hn5 R5
                        have hb5 : no5 ≤ 12 * i + 1 := by have := hn5.out; omega
                        have hT5 := hT4.unquote (show (1 : Int) ≤ ((t + 1 : Nat) : Int) by omega)
                        clear hW4 hT4 hn5
                        go_wp2
                        go_roundg (n - i)
                        case measure => have := HKJ.out; omega
                        case rel => exact ⟨i, by omega, no5, go5, co5, t + 1, gn, cn, gf, cf, _, _, _, rfl, rfl, rfl, rfl, by omega, by omega, by omega, hb5, hT5, R5⟩
                · have c3 := bfalse h3
                  by_cases h4 : bb % 6 = 4
                  · have c4 := btrue h4
                    clear h0 h1 h2 h3 h4
                    go_upto_if 140 with fail
                    go_cut [3] from 18 to 156 (fun v3 wx => ∃ (no' go' co' : Nat) (xs' : List Int), v3 = .slice (some ⟨go', 0, none⟩) no' co' ∧ no' ≤ no + 6 ∧ Pl.Tx xs' ((t + 1 : Nat) : Int) 0 ∧ Wv w wx no' go' co' (t + 1) gn cn (t + 1) gf cf xs' ks (fs.set t false))
                    case first =>
                      cases h8 : (bits BinOp.and IntKind.u8 bb 8 != 0) with
                      | true =>
                        go_wp2_with (at_builtin; refine app_out hW2 [45] 1 rfl (by omega) (by omega) (by omega) (.tmp 141) (.tmp 142) rfl rfl rfl rfl ?_)
                        intro no3 go3 co3 w3 hn3 R3
                        have hb3 : no3 ≤ no + 6 := by have := hn3.out; omega
                        clear hW2 hn3
                        go_wp2
                        go_meet
                        case rel => exact ⟨no3, go3, co3, _, rfl, hb3, hT2.dull (by omega) (by simp [Pl.Dull]), R3⟩
                      | false =>
                        go_wp2
                        go_meet
                        case rel => exact ⟨no2, go2, co2, xs2, rfl, by omega, hT2, hW2⟩
                    case rest =>
                      clear hW2 hT2 hno2
                      obtain ⟨no3, go3, co3, xs3, rfl, hno3, hT3, hW3⟩ := hcut
                      go_wp2_with (at_builtin; refine app_out hW3 [49 + bb / 16 % 9] 1 rfl (by omega) (by omega) (by omega) (.tmp 144) (.tmp 149) rfl rfl rfl rfl ?_)
                      intro no4 go4 co4 w4 hn4 R4
                      have hno4 : no4 ≤ no + 7 := by have := hn4.out; omega
                      clear hW3 hn4
                      have hdig : Pl.Dull (49 + bb / 16 % 9) := by unfold Pl.Dull; omega
                      have hT4 : Pl.Tx (xs3 ++ [49 + bb / 16 % 9]) ((t + 1 : Nat) : Int) 0 := hT3.dull (by omega) (by intro c hc; simp at hc; rw [hc]; exact hdig)
                      have hT5 : Pl.Tx (xs3 ++ [49 + bb / 16 % 9] ++ [46, 53, 101, 43, 51]) ((t + 1 : Nat) : Int) 0 := hT4.dull (by omega) (by simp [Pl.Dull])
                      generalize xs3 ++ [49 + bb / 16 % 9] = xs4 at hT4 hT5 R4
                      clear hT3 hdig
                      cases h128 : (bits BinOp.and IntKind.u8 bb 128 != 0) with
                      | true =>
                        go_wp2_with (at_builtin; refine app_out R4 [46, 53, 101, 43, 51] 5 rfl (by omega) (by omega) (by omega) (.tmp 154) (.tmp 155) rfl rfl rfl rfl ?_)
                        intro no5 go5 co5 w5 hn5 R5
                        have hb5 : no5 ≤ 12 * (k + 1) + 1 := by have := hn5.out; omega
                        clear R4 hn5
                        go_wp2
                        go_roundg (gk - 1)
                        case measure => omega
                        case rel => exact ⟨k + 1, by have := HKJ.out; omega, no5, go5, co5, t + 1, gn, cn, gf, cf, _, _, _, rfl, rfl, rfl, by go_num, by omega, by omega, by omega, hb5, hT5, R5⟩
                      | false =>
                        go_wp2
                        go_roundg (gk - 1)
                        case measure => omega
                        case rel => exact ⟨k + 1, by have := HKJ.out; omega, no4, go4, co4, t + 1, gn, cn, gf, cf, _, _, _, rfl, rfl, rfl, by go_num, by omega, by omega, by omega, by omega, hT4, R4⟩
                  · have c4 := bfalse h4
                    clear h0 h1 h2 h3 h4
                    by_cases k0 : bb / 8 % 3 = 0
                    · have d0 := btrue k0
                      clear k0
                      go_wp2_with (at_builtin; refine app_out hW2 [116, 114, 117, 101] 4 rfl (by omega) (by omega) (by omega) (.tmp 77) (.tmp 78) rfl rfl rfl rfl ?_)
                      intro no3 go3 co3 w3 hn3 R3
                      have hb3 : no3 ≤ 12 * (k + 1) + 1 := by have := hn3.out; omega
                      clear hW2 hn3
                      go_wp2
                      go_roundg (gk - 1)
                      case measure => omega
                      case rel => exact ⟨k + 1, by have := HKJ.out; omega, no3, go3, co3, t + 1, gn, cn, gf, cf, _, _, _, rfl, rfl, rfl, by go_num, by omega, by omega, by omega, hb3, hT2.dull (by omega) (by simp [Pl.Dull]), R3⟩
                    · have d0 := bfalse k0
                      by_cases k1 : bb / 8 % 3 = 1
                      · have d1 := btrue k1
                        clear k0 k1
                        go_wp2_with (at_builtin; refine app_out hW2 [102, 97, 108, 115, 101] 5 rfl (by omega) (by omega) (by omega) (.tmp 82) (.tmp 83) rfl rfl rfl rfl ?_)
                        intro no3 go3 co3 w3 hn3 R3
                        have hb3 : no3 ≤ 12 * (k + 1) + 1 := by have := hn3.out; omega
                        clear hW2 hn3
                        go_wp2
                        go_roundg (gk - 1)
                        case measure => omega
                        case rel => exact ⟨k + 1, by have := HKJ.out; omega, no3, go3, co3, t + 1, gn, cn, gf, cf, _, _, _, rfl, rfl, rfl, by go_num, by omega, by omega, by omega, hb3, hT2.dull (by omega) (by simp [Pl.Dull]), R3⟩
                      · have d1 := bfalse k1
                        clear k0 k1
                        go_wp2_with (at_builtin; refine app_out hW2 [110, 117, 108, 108] 4 rfl (by omega) (by omega) (by omega) (.tmp 72) (.tmp 73) rfl rfl rfl rfl ?_)
                        intro no3 go3 co3 w3 hn3 R3
                        have hb3 : no3 ≤ 12 * (k + 1) + 1 := by have := hn3.out; omega
                        clear hW2 hn3
                        go_wp2
                        go_roundg (gk - 1)
                        case measure => omega
                        case rel => exact ⟨k + 1, by have := HKJ.out; omega, no3, go3, co3, t + 1, gn, cn, gf, cf, _, _, _, rfl, rfl, rfl, by go_num, by omega, by omega, by omega, hb3, hT2.dull (by omega) (by simp [Pl.Dull]), R3⟩
    · have hnb : no + nk ≤ 917506 := by omega
      clear hkj hno hnk2
      go_wp2
      go_loopg [3, 4] nk (fun j v3 v4 wr => ∃ (no go co gn cn nf gf cf : Nat) (xs ks : List Int) (fs : List Bool), v3 = .slice (some ⟨go, 0, none⟩) no co ∧ v4 = .slice (some ⟨gn, 0, none⟩) j cn ∧ no + j ≤ 917506 ∧ Hid ((1 ≤ j ∧ Pl.Tx xs j 0) ∨ (j = 0 ∧ Pl.Fin xs)) ∧ Wv w wr no go co j gn cn nf gf cf xs ks fs)
      case atStart => exact ⟨no, go, co, gn, cn, nk, gf, cf, xs, ks, fs, rfl, rfl, hnb, Or.inl ⟨hnk1, hT⟩, hW⟩
      case round =>
        clear hW hT hnb hnk1
        obtain ⟨no, go, co, gn, cn, nf, gf, cf, xs, ks, fs, rfl, rfl, hnb, HT, hW⟩ := hrel
        rcases Nat.eq_zero_or_pos gk with h0 | h0
        · subst h0
          have hF : Pl.Fin xs := by
            rcases HT.out with ⟨h, _⟩ | ⟨_, h⟩
            · omega
            · exact h
          have hlen := hW.lenO
          have hcap := owns_cap hW.o
          have hrow : Row wr go 0 no (fun i => xs.getD i 0) := fun i hi => by
            rw [Nat.zero_add, hW.o.cellAt i (by omega)]
            simp [intsV, List.getD, show i < xs.length by omega]
          have hbel := hW.bel
          clear HT hW
          go_wp2
          go_ret
          exact ⟨no, go, co, xs, rfl, hcap, by omega, hlen, hF, hrow, hbel⟩
        · obtain ⟨t, rfl⟩ : ∃ t, gk = t + 1 := ⟨gk - 1, by omega⟩
          have hcell := hW.cellK t (by omega)
          have hcap : t + 1 ≤ cn := owns_cap hW.k
          generalize ks.getD t 0 = kv at hcell
          have hT : Pl.Tx xs ((t + 1 : Nat) : Int) 0 := by
            rcases HT.out with ⟨_, h⟩ | ⟨h, _⟩
            · exact h
            · omega
          clear HT h0
          go_wp2_with fail
          refine (closeB_any w no go co (t + 1) gn cn nf gf cf xs ks fs kv wr (by omega) hW).mono ?_
          rintro e w' ⟨no', go', co', rfl, hno', c, hc, hW'⟩
          have hb' : no' + t ≤ 917506 := by have := hno'.out; omega
          have hW2 := hW'.popK
          have HT' : Hid ((1 ≤ t ∧ Pl.Tx (xs ++ [c]) t 0) ∨ (t = 0 ∧ Pl.Fin (xs ++ [c]))) := by
            by_cases h0 : t = 0
            · subst h0; exact Or.inr ⟨rfl, Pl.Tx.fin (by simpa using hT) hc⟩
            · refine Or.inl ⟨by omega, ?_⟩
              have := hT.shuts (by omega) hc
              rwa [show ((t + 1 : Nat) : Int) - 1 = (t : Int) from by omega] at this
          clear hW hW' hT hcell hno'
          go_wp2
          go_roundg t
          case measure => omega
          case rel => exact ⟨no', go', co', gn, cn, nf, gf, cf, xs ++ [c], _, fs, rfl, rfl, hb', HT', hW2⟩

end Go.Proofs.Qxb6000374a
