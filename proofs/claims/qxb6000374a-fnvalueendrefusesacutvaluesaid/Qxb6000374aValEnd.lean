import Derived.Test.Qxb6000374aVal
namespace Go.Proofs.Qxb6000374a
open Go.RowKit
set_option linter.unusedVariables false

theorem br_close {f : Nat → Int} {n s k : Nat} {x : Int} (h : s ≤ k) (hk : k < n) (hd : Pl.Deep f s k) (he : Pl.st f s (k + 1) = (x - 1, 0)) (hx : x - 1 = 0) : BrRes f n s ((k : Int) + 1) :=
  Or.inl ⟨k + 1, by omega, by omega, by omega, by rw [he]; exact hx, hd⟩
theorem br_go {f : Nat → Int} {s k : Nat} {x : Int} {m : Nat} (hd : Pl.Deep f s k) (he : Pl.st f s (k + 1) = (x, m)) (hx : x ≠ 0) : Pl.Deep f s (k + 1) :=
  Pl.deep_step hd (by rw [he]; exact hx)

theorem first_none {f : Nat → Int} {n s k : Nat} {p : Int → Bool} (h1 : s ≤ k) (h2 : k ≤ n) (h : ∀ i, s ≤ i → i < k → p (f i) = false) (h3 : k < n → p (f k) = true) : Pl.First p f n s k := ⟨h1, h2, h, h3⟩

set_option maxHeartbeats 1600000 in
theorem valEnd_br (b o n c s : Nat) (f : Nat → Int) (w : World) (hn : n ≤ 1048576) (hnc : n ≤ c) (hs : s < n) (hf : ∀ i, 0 ≤ f i ∧ f i ≤ 255) (hbr : f s = 123 ∨ f s = 91) (hc : Row w b o n f) :
    Calls Try.prog 35 #[.slice (some ⟨b, o, none⟩) n c, .int .i64 s] w fun e w' => w = w' ∧ ∃ r : Int, e = .returned (.int .i64 r) ∧ BrRes f n s r := by
  have HF : Hid (∀ i, 0 ≤ f i ∧ f i ≤ 255) := hf
  have HBR : Hid (f s = 123 ∨ f s = 91) := hbr
  have hcs := hc s hs
  have hd0 : decide (n ≤ s) = false := by simp; omega
  have b1 : (f s == 34) = false := bfalse (by omega)
  have hbb : (f s == 123) = true ∨ ((f s == 123) = false ∧ (f s == 91) = true) := by
    rcases hbr with e | e
    · exact Or.inl (btrue e)
    · exact Or.inr ⟨bfalse (by omega), btrue e⟩
  clear hf hbr
  rcases hbb with b2 | ⟨b2, b3⟩
  all_goals
    go_enter Try.func35, Try.ntmps35
    go_wp2
    go_loop [1, 5] (fun j d => ∃ (i : Nat) (x : Int), s ≤ i ∧ i ≤ n ∧ j = .int .i64 i ∧ d = .int .i64 x ∧ x ≤ i ∧ Hid ((i = s ∧ x = 0) ∨ 1 ≤ x) ∧ 0 ≤ x ∧ Hid (i < n → Pl.st f s i = (x, 0)) ∧ Pl.Deep f s i) (fun j _ => n - (intOf j).toNat)
    case atStart => exact ⟨s, 0, Nat.le_refl _, by omega, rfl, rfl, by omega, Or.inl ⟨rfl, rfl⟩, by omega, fun _ => Pl.st_start f s, Pl.deep_start f s⟩
    case round =>
      clear hcs
      obtain ⟨i, x, hsi, hin', rfl, rfl, hx1, HX, hx0, HST, hdeep⟩ := hrel
      by_cases hin : i < n
      · have hcell := hc i hin
        have HS : Hid (Pl.st f s i = (x, 0)) := HST.out hin
        clear HST
        by_cases i34 : f i = 34
        · have c1 := btrue i34
          have hne : i ≠ s := fun e => by have := HBR.out; rw [← e] at this; omega
          have hx : 1 ≤ x := by rcases HX.out with h | h <;> omega
          have H34 : Hid (f i = 34) := i34
          have HDS : ∀ r, Pl.EndOr f n i r → _ := fun r hr => Pl.deep_string hsi HS.out (show x ≠ 0 by omega) i34 hdeep hr hin
          clear i34 hne
          go_wp2_with fail
          refine (strEnd_any b o n c i f w hn hnc hin HF.out H34.out hc).mono ?_
          rintro e w' ⟨rfl, r, rfl, hr⟩
          rcases hr with ⟨q, rfl, hq⟩ | ⟨rfl, hno⟩
          · obtain ⟨d1, d2, d3, d4, d5⟩ := HDS q (Or.inl hq)
            have HD4 : Hid (q < n → Pl.st f s q = (x, 0)) := d4
            clear HDS d3 d4 hq
            go_wp2
            go_round
            case rel => exact ⟨q, x, by omega, d2, rfl, rfl, by omega, Or.inr hx, hx0, HD4, d5⟩
            case measure => simp [intOf]; omega
          · obtain ⟨d1, d2, d3, d4, d5⟩ := HDS n (Or.inr ⟨hno, rfl⟩)
            clear HDS d3 d4 hno
            go_wp2
            go_ret
            exact ⟨rfl, _, rfl, Or.inr ⟨rfl, d5⟩⟩
        · have c1 := bfalse i34
          by_cases io : f i = 123 ∨ f i = 91
          · have E := Pl.st_open hsi HS.out io
            have ioo : (f i == 123) = true ∨ ((f i == 123) = false ∧ (f i == 91) = true) := by
              rcases io with e | e
              · exact Or.inl (btrue e)
              · exact Or.inr ⟨bfalse (by omega), btrue e⟩
            have R : Pl.Deep f s (i + 1) := br_go hdeep E (by omega)
            have HE : Hid (Pl.st f s (i + 1) = (x + 1, 0)) := E
            clear io i34 E HS HX
            rcases ioo with c2 | ⟨c2, c3⟩
            all_goals
              go_wp2
              go_round
              case rel => exact ⟨i + 1, x + 1, by omega, by omega, by go_num, rfl, by omega, Or.inr (by omega), by omega, fun _ => HE.out, R⟩
              case measure => simp [intOf]; omega
          · have io1 : f i ≠ 123 := fun e => io (Or.inl e)
            have io2 : f i ≠ 91 := fun e => io (Or.inr e)
            have c2 := bfalse io1
            have c3 := bfalse io2
            have hne : i ≠ s := fun e => by have := HBR.out; rw [← e] at this; exact io this
            have hx : 1 ≤ x := by rcases HX.out with h | h <;> omega
            clear io HX
            by_cases iz : f i = 125 ∨ f i = 93
            · have E := Pl.st_shut hsi HS.out iz
              have izz : (f i == 125) = true ∨ ((f i == 125) = false ∧ (f i == 93) = true) := by
                rcases iz with e | e
                · exact Or.inl (btrue e)
                · exact Or.inr ⟨bfalse (by omega), btrue e⟩
              clear iz i34 io1 io2 hne
              by_cases hx2 : x - 1 = 0
              · have bx := btrue hx2
                have R := br_close hsi hin hdeep E hx2
                clear hx2 E HS
                rcases izz with c4 | ⟨c4, c5⟩
                all_goals
                  go_wp2
                  go_ret
                  exact ⟨rfl, _, rfl, R⟩
              · have bx := bfalse hx2
                have R : Pl.Deep f s (i + 1) := br_go hdeep E hx2
                have HE : Hid (Pl.st f s (i + 1) = (x - 1, 0)) := E
                have hx3 : 2 ≤ x := by omega
                clear hx2 E HS
                rcases izz with c4 | ⟨c4, c5⟩
                all_goals
                  go_wp2
                  go_round
                  case rel => exact ⟨i + 1, x - 1, by omega, by omega, by go_num, rfl, by omega, Or.inr (by omega), by omega, fun _ => HE.out, R⟩
                  case measure => simp [intOf]; omega
            · have iz1 : f i ≠ 125 := fun e => iz (Or.inl e)
              have iz2 : f i ≠ 93 := fun e => iz (Or.inr e)
              have c4 := bfalse iz1
              have c5 := bfalse iz2
              have E := Pl.st_other hsi HS.out i34 io1 io2 iz1 iz2
              have R : Pl.Deep f s (i + 1) := br_go hdeep E (by omega)
              have HE : Hid (Pl.st f s (i + 1) = (x, 0)) := E
              clear E HS iz i34 io1 io2 iz1 iz2 hne
              go_wp2
              go_round
              case rel => exact ⟨i + 1, x, by omega, by omega, by go_num, rfl, by omega, Or.inr hx, by omega, fun _ => HE.out, R⟩
              case measure => simp [intOf]; omega
      · have e : i = n := by omega
        subst e
        clear HX HST
        go_wp2
        go_ret
        exact ⟨rfl, _, rfl, Or.inr ⟨rfl, hdeep⟩⟩

set_option maxHeartbeats 1600000 in
theorem valEnd_str (b o n c s : Nat) (f : Nat → Int) (w : World) (hn : n ≤ 1048576) (hnc : n ≤ c) (hs : s < n) (hf : ∀ i, 0 ≤ f i ∧ f i ≤ 255) (hq : f s = 34) (hc : Row w b o n f) :
    Calls Try.prog 35 #[.slice (some ⟨b, o, none⟩) n c, .int .i64 s] w fun e w' => w = w' ∧ ∃ r : Int, e = .returned (.int .i64 r) ∧ StrRes f n s r := by
  have HF : Hid (∀ i, 0 ≤ f i ∧ f i ≤ 255) := hf
  have HQ : Hid (f s = 34) := hq
  have hcs := hc s hs
  have hd0 : decide (n ≤ s) = false := by simp; omega
  have b1 := btrue hq
  clear hf hq
  go_enter Try.func35, Try.ntmps35
  go_wp2_with fail
  refine (strEnd_any b o n c s f w hn hnc hs HF.out HQ.out hc).mono ?_
  rintro e w' ⟨rfl, r, rfl, hr⟩
  go_wp2
  go_ret
  exact ⟨rfl, _, rfl, hr⟩

set_option maxHeartbeats 1600000 in
theorem valEnd_lit (b o n c s : Nat) (f : Nat → Int) (w : World) (hn : n ≤ 1048576) (hs : s < n) (hf : ∀ i, 0 ≤ f i ∧ f i ≤ 255) (h1 : f s ≠ 34) (h2 : f s ≠ 123) (h3 : f s ≠ 91) (hc : Row w b o n f) :
    Calls Try.prog 35 #[.slice (some ⟨b, o, none⟩) n c, .int .i64 s] w fun e w' => w = w' ∧ ∃ r : Int, e = .returned (.int .i64 r) ∧ LitRes f n s r := by
  have HF : Hid (∀ i, 0 ≤ f i ∧ f i ≤ 255) := hf
  have hcs := hc s hs
  have hd0 : decide (n ≤ s) = false := by simp; omega
  have b1 := bfalse h1
  have b2 := bfalse h2
  have b3 := bfalse h3
  clear hf h1 h2 h3
  go_enter Try.func35, Try.ntmps35
  go_wp2
  go_loop [6] (fun j => ∃ i : Nat, s ≤ i ∧ i ≤ n ∧ j = .int .i64 i ∧ Hid (∀ k, s ≤ k → k < i → Pl.isDel (f k) = false)) (fun j => n - (intOf j).toNat)
  case atStart => exact ⟨s, Nat.le_refl _, by omega, rfl, fun k a b => by omega⟩
  case round =>
    clear hcs
    obtain ⟨i, hsi, hin', rfl, HJ⟩ := hrel
    by_cases hin : i < n
    · have hcell := hc i hin
      cases hd : Pl.isDel (f i) with
      | true =>
        have HD : Hid (Pl.isDel (f i) = true) := hd
        have HFi : Pl.First Pl.isDel f n s i := ⟨hsi, hin', HJ.out, fun _ => hd⟩
        clear hd HJ
        go_wp2_with fail
        refine (idxStr_any (f i) w (HF.out i)).mono ?_
        rintro e w' ⟨rfl, r, rfl, hr1, hr2⟩
        have hr0 : 0 ≤ r := hr1 HD.out
        clear hr1 hr2
        by_cases his : i = s
        · have bi : ((i : Int) == (s : Int)) = true := btrue (by omega)
          have R : LitRes f n s (-1) := ⟨i, HFi, Or.inl ⟨his, rfl⟩⟩
          clear his
          go_wp2
          go_ret
          exact ⟨rfl, _, rfl, R⟩
        · have bi : ((i : Int) == (s : Int)) = false := bfalse (by omega)
          have R : LitRes f n s i := ⟨i, HFi, Or.inr ⟨by omega, rfl⟩⟩
          clear his
          go_wp2
          go_ret
          exact ⟨rfl, _, rfl, R⟩
      | false =>
        have HD : Hid (Pl.isDel (f i) = false) := hd
        clear hd
        go_wp2_with fail
        refine (idxStr_any (f i) w (HF.out i)).mono ?_
        rintro e w' ⟨rfl, r, rfl, hr1, hr2⟩
        have hr0 : r < 0 := hr2 HD.out
        clear hr1 hr2
        go_wp2
        go_round
        case rel => exact ⟨i + 1, by omega, by omega, by go_num, Pl.first_step HJ.out HD.out⟩
        case measure => simp [intOf]; omega
    · have e : i = n := by omega
      subst e
      have HFi : Pl.First Pl.isDel f i s i := ⟨hsi, Nat.le_refl _, HJ.out, fun h => absurd h hin⟩
      have bi : ((i : Int) == (s : Int)) = false := bfalse (by omega)
      have R : LitRes f i s i := ⟨i, HFi, Or.inr ⟨by omega, rfl⟩⟩
      clear HJ
      go_wp2
      go_ret
      exact ⟨rfl, _, rfl, R⟩

set_option maxHeartbeats 400000 in
theorem zzVal_any (b o n c s : Nat) (f : Nat → Int) (w : World) (hn : n ≤ 1048576) (hnc : n ≤ c) (hs : s < n) (hf : ∀ i, 0 ≤ f i ∧ f i ≤ 255) (hc : Row w b o n f) :
    Calls Try.prog 22 #[.slice (some ⟨b, o, none⟩) n c, .int .i64 s] w fun e w' => w = w' ∧ ∃ r : Int, e = .returned (.int .i64 r) ∧ ValRes f n s r := by
  have H : Calls Try.prog 35 #[.slice (some ⟨b, o, none⟩) n c, .int .i64 s] w fun e w' => w = w' ∧ ∃ r : Int, e = .returned (.int .i64 r) ∧ ValRes f n s r := by
    by_cases h1 : f s = 34
    · exact (valEnd_str b o n c s f w hn hnc hs hf h1 hc).mono fun e w' ⟨a1, r, a2, a3⟩ => ⟨a1, r, a2, Or.inl ⟨h1, a3⟩⟩
    · by_cases h2 : f s = 123 ∨ f s = 91
      · exact (valEnd_br b o n c s f w hn hnc hs hf h2 hc).mono fun e w' ⟨a1, r, a2, a3⟩ => ⟨a1, r, a2, Or.inr (Or.inl ⟨h2, a3⟩)⟩
      · have e1 : f s ≠ 123 := fun e => h2 (Or.inl e)
        have e2 : f s ≠ 91 := fun e => h2 (Or.inr e)
        exact (valEnd_lit b o n c s f w hn hs hf h1 e1 e2 hc).mono fun e w' ⟨a1, r, a2, a3⟩ => ⟨a1, r, a2, Or.inr (Or.inr ⟨h1, e1, e2, a3⟩)⟩
  clear hf
  go_enter Try.func22, Try.ntmps22
  go_wp2_with fail
  refine H.mono ?_
  rintro e w' ⟨rfl, r, rfl, hr⟩
  go_wp2
  go_ret
  exact ⟨rfl, _, rfl, hr⟩

end Go.Proofs.Qxb6000374a
