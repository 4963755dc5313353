import Derived.Test.Qxb6000374aOwn
namespace Go.Proofs.Qxb6000374a
open Go.RowKit
set_option linter.unusedVariables false

theorem ret_u8 {a b : Int} (h : a = b) : Ending.returned (.int .u8 a) = .returned (.int .u8 b) := by rw [h]

set_option maxHeartbeats 400000 in
theorem closeB_any (w0 : World) (no go co nk gk ck nf gf cf : Nat) (xs ks : List Int) (fs : List Bool) (kv : Int) (w : World) (hno : no ≤ 1048576) (h : Wv w0 w no go co nk gk ck nf gf cf xs ks fs) :
    Calls Try.prog 33 #[.slice (some ⟨go, 0, none⟩) no co, .int .u8 kv] w fun e w' => ∃ no' go' co' : Nat, e = .returned (.slice (some ⟨go', 0, none⟩) no' co') ∧ Hid (no' = no + 1) ∧ ∃ c : Int, (c = 125 ∨ c = 93) ∧ Wv w0 w' no' go' co' nk gk ck nf gf cf (xs ++ [c]) ks fs := by
  by_cases hk : kv = 123
  · have b1 := btrue hk
    clear hk
    go_enter Try.func33, Try.ntmps33
    go_wp2_with (at_builtin; refine app_out h [125] 1 rfl (by omega) (by omega) hno (.tmp 7) (.tmp 8) rfl rfl rfl rfl ?_)
    intro no' go' co' w' hn R
    clear h
    go_wp2
    go_ret
    exact ⟨no', go', co', rfl, hn, 125, Or.inl rfl, R⟩
  · have b1 := bfalse hk
    clear hk
    go_enter Try.func33, Try.ntmps33
    go_wp2_with (at_builtin; refine app_out h [93] 1 rfl (by omega) (by omega) hno (.tmp 10) (.tmp 11) rfl rfl rfl rfl ?_)
    intro no' go' co' w' hn R
    clear h
    go_wp2
    go_ret
    exact ⟨no', go', co', rfl, hn, 93, Or.inr rfl, R⟩

/-- A hexadecimal digit is neither a quote nor a backslash. -/
def NotQ (c : Int) : Prop := c ≠ 34 ∧ c ≠ 92 ∧ 0 ≤ c ∧ c ≤ 255

set_option maxHeartbeats 400000 in
theorem hex_any (n : Int) (w : World) (h0 : 0 ≤ n) (h1 : n ≤ 15) : Calls Try.prog 26 #[.int .u8 n, .bool false] w fun e w' => w = w' ∧ ∃ c : Int, e = .returned (.int .u8 c) ∧ NotQ c := by
  by_cases h : n < 10
  · go_enter Try.func26, Try.ntmps26
    go_wp2
    go_ret
    exact ⟨rfl, _, rfl, by unfold NotQ; simp; omega⟩
  · go_enter Try.func26, Try.ntmps26
    go_wp2
    go_ret
    exact ⟨rfl, _, rfl, by unfold NotQ; simp; omega⟩

/-- Bytes that keep us inside a string. -/
def StrChunk (bs : List Int) : Prop := ∀ (ys : List Int) (d : Int), 1 ≤ d → Pl.Tx ys d 1 → Pl.Tx (ys ++ bs) d 1

set_option maxHeartbeats 800000 in
theorem wsb_any (w0 : World) (no go co nk gk ck nf gf cf : Nat) (xs ks : List Int) (fs : List Bool) (c : Int) (w : World) (h0 : 0 ≤ c) (h1 : c ≤ 255) (hno : no ≤ 1048576) (h : Wv w0 w no go co nk gk ck nf gf cf xs ks fs) :
    Calls Try.prog 34 #[.slice (some ⟨go, 0, none⟩) no co, .int .u8 c] w fun e w' => ∃ no' go' co' : Nat, e = .returned (.slice (some ⟨go', 0, none⟩) no' co') ∧ Hid (no' ≤ no + 6) ∧ ∃ bs : List Int, StrChunk bs ∧ Wv w0 w' no' go' co' nk gk ck nf gf cf (xs ++ bs) ks fs := by
  by_cases hq : c = 34 ∨ c = 92
  · have hqq : (c == 34) = true ∨ ((c == 34) = false ∧ (c == 92) = true) := by
      rcases hq with e | e
      · exact Or.inl (btrue e)
      · exact Or.inr ⟨bfalse (by omega), btrue e⟩
    clear hq
    rcases hqq with b1 | ⟨b1, b2⟩
    all_goals
      go_enter Try.func34, Try.ntmps34
      go_wp2_with (at_builtin; refine app_out h [92, c] 2 rfl (by omega) (by omega) hno (.tmp 11) (.tmp 13) rfl rfl rfl rfl ?_)
      intro no' go' co' w' hn R
      clear h
      go_wp2
      go_ret
      exact ⟨no', go', co', rfl, by have := hn.out; show no' ≤ no + 6; omega, [92, c], fun ys d hd hy => hy.inEsc hd ⟨h0, h1⟩, R⟩
  · have e1 : c ≠ 34 := fun e => hq (Or.inl e)
    have e2 : c ≠ 92 := fun e => hq (Or.inr e)
    have b1 := bfalse e1
    have b2 := bfalse e2
    by_cases hp : c < 32 ∨ 127 ≤ c
    · have hpp : c < 32 ∨ (¬ c < 32 ∧ 127 ≤ c) := by omega
      clear hq e1 e2 hp
      rcases hpp with hp | ⟨hp, hp2⟩
      all_goals
        go_enter Try.func34, Try.ntmps34
        go_wp2_with fail
        refine (hex_any (c / 16) w (by omega) (by omega)).mono ?_
        rintro e w' ⟨rfl, c1, rfl, hc1⟩
        go_wp2_with fail
        refine (hex_any (c % 16) w (by omega) (by omega)).mono ?_
        rintro e w' ⟨rfl, c2, rfl, hc2⟩
        go_wp2_with (at_builtin; refine app_out h [92, 117, 48, 48, c1, c2] 6 rfl (by omega) (by omega) hno (.tmp 21) (.tmp 28) rfl rfl rfl rfl ?_)
        intro no' go' co' w' hn R
        clear h
        go_wp2
        go_ret
        exact ⟨no', go', co', rfl, by have := hn.out; show no' ≤ no + 6; omega, [92, 117, 48, 48, c1, c2], fun ys d hd hy => hy.inHex hd hc1.2.2 hc2.2.2 hc1.1 hc1.2.1 hc2.1 hc2.2.1, R⟩
    · have hp1 : ¬ c < 32 := by omega
      have hp2 : ¬ 127 ≤ c := by omega
      have HC : StrChunk [c] := fun ys d hd hy => hy.inPlain hd ⟨h0, h1⟩ e1 e2
      clear hq e1 e2 hp
      go_enter Try.func34, Try.ntmps34
      go_wp2_with (at_builtin; refine app_out h [c] 1 rfl (by omega) (by omega) hno (.tmp 30) (.tmp 32) rfl rfl rfl rfl ?_)
      intro no' go' co' w' hn R
      clear h
      go_wp2
      go_ret
      exact ⟨no', go', co', rfl, by have := hn.out; show no' ≤ no + 6; omega, [c], HC, R⟩

end Go.Proofs.Qxb6000374a
