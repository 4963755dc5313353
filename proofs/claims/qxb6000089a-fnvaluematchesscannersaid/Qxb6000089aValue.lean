import Derived.Test.Qxb6000089aNext
import Derived.Deep.RegionWith
namespace Go.Proofs.Qxb6000089a
open Go.RowKit

theorem Wk.put {w : World} {g b o n c p : Nat} (h : Wk w g b o n c p) (q : Nat) (v : Int) (hv : v = q) : Wk (w.setCell ⟨g, 1, none⟩ (.int .i64 v)) g b o n c q := h.set 0 q v hv

theorem below_put {w wr : World} {g : Nat} (h : Below g w wr) (v : Value) : Below g w (wr.setCell ⟨g, 1, none⟩ v) := h.setCell (Nat.le_refl _) v

theorem Wk.drew1 {w : World} {g b o n c p : Nat} (h : Wk w g b o n c p) : Wk w.drew g b o n c p := ⟨h.data, h.pos, h.free, h.below, h.size⟩

theorem ret_slice {a : Option Addr} {n1 n2 c1 c2 : Nat} (h1 : n1 = n2) (h2 : c1 = c2) : Ending.returned (.slice a n1 c1) = .returned (.slice a n2 c2) := by rw [h1, h2]

theorem isDel_q (c : Int) (w : World) : Calls Try.prog 28 #[.int .u8 c] w fun e w' => e = .returned (.bool (Pl.isDel c)) ∧ w' = w :=
  (isDel_any c w).mono fun _ _ h => ⟨h.2, h.1.symm⟩

theorem deep_ne {f : Nat → Int} {s i : Nat} {x : Int} {m : Nat} (hd : Pl.Deep f s i) (hi : s < i) (he : Pl.st f s i = (x, m)) : x ≠ 0 := by
  have := hd i hi (Nat.le_refl _); rw [he] at this; exact this

set_option maxRecDepth 100000 in
set_option maxHeartbeats 4000000 in
theorem value_any (g b o n c p : Nat) (f : Nat → Int) (w : World) (hn : n ≤ 1048576) (hnc : n ≤ c) (hp : p ≤ n) (hf : ∀ i, 0 ≤ f i ∧ f i ≤ 255) (hw : Wk w g b o n c p) (hc : Row w b o n f) :
    Calls Try.prog 22 #[.pointer (some ⟨g, 0, none⟩)] w fun e w' => ∃ (s r : Nat) (a : Addr), e = .returned (.slice (some a) (r - s) (c - s)) ∧ (s < r → a = ⟨b, o + s, none⟩) ∧ ValAt f n p s r ∧ Wk w' g b o n c r ∧ Below g w w' := by
  have HF : Hid (∀ i, 0 ≤ f i ∧ f i ≤ 255) := hf
  clear hf
  go_enter Try.func22, Try.ntmps22
  go_wp2_with fail
  refine (next_any g b o n c p f w hn hp hw hc).mono ?_
  rintro e w1 ⟨k, ch, rfl, hF, h1, h2, hwk, hbel⟩
  have hd := hwk.data
  have hps := hwk.pos
  have hfr := hwk.free
  have hrow := hc.below hbel hwk.below
  by_cases hstr : k < n ∧ f k = 34
  · obtain ⟨hlt, h34⟩ := hstr
    obtain rfl : ch = f k := h1 hlt
    clear h1 h2
    have b1 := btrue h34
    have HQ : Hid (f k = 34) := h34
    clear h34
    go_wp2
    go_region_with (go_at_call 25; refine (strEnd_any b o n c k f _ hn hnc hlt HF.out HQ.out ?_).mono ?_; (intro i hi; exact hrow i hi); rintro e w2 ⟨rfl, r, rfl, hr⟩)
    all_goals
      have hkr : k < r := (Pl.endOr_bounds hr hlt).1
      have hrn : r ≤ n := (Pl.endOr_bounds hr hlt).2
      go_wp2
      go_quiet (fail)
      go_wp2
      go_ret
      exact ⟨k, r, ⟨b, o + k, none⟩, rfl, fun _ => rfl, ⟨hF, fun _ => Pl.valEnd_str HQ.out hr, fun h => absurd h (by omega)⟩, (hwk.put _ _ rfl).drew1.draw _, below_drewN (below_put hbel _).drew _⟩
  by_cases hbr : k < n ∧ (f k = 123 ∨ f k = 91)
  · obtain ⟨hlt, hbr⟩ := hbr
    obtain rfl : ch = f k := h1 hlt
    clear h1 h2 hstr
    have h34 : f k ≠ 34 := by omega
    have b1 := bfalse h34
    have HN34 : Hid (f k ≠ 34) := h34
    have HBR : Hid (f k = 123 ∨ f k = 91) := hbr
    clear h34
    have hbb : (f k == 123) = true ∨ ((f k == 123) = false ∧ (f k == 91) = true) := by
      rcases hbr with e | e
      · exact Or.inl (btrue e)
      · exact Or.inr ⟨bfalse (by omega), btrue e⟩
    clear hbr
    rcases hbb with b2 | ⟨b2, b3⟩
    all_goals
      go_wp2
      go_loopg [5] (n - k) (fun j d wr => ∃ (i : Nat) (x : Int), i + j = n ∧ k ≤ i ∧ d = .int .i64 x ∧ -(i : Int) ≤ x ∧ x ≤ i ∧ Hid (i < n → Pl.st f k i = (x, 0)) ∧ Pl.Deep f k i ∧ Wk wr g b o n c i ∧ Below g w wr)
      case atStart => exact ⟨k, 0, by omega, Nat.le_refl _, rfl, by omega, by omega, fun _ => Pl.st_start f k, Pl.deep_start f k, hwk, hbel⟩
      case round =>
        clear hd hps hfr hrow hwk hbel
        obtain ⟨i, x, hij, hki, rfl, hx1, hx2, HST, hdeep, hwk, hbel⟩ := hrel
        have hd := hwk.data
        have hps := hwk.pos
        have hfr := hwk.free
        have hrow := hc.below hbel hwk.below
        have HIJ : Hid (i + gk = n) := hij
        by_cases hin : i < n
        · have hcell := hrow i hin
          have hgk : 0 < gk := by omega
          have HS : Hid (Pl.st f k i = (x, 0)) := HST.out hin
          clear hij HST
          by_cases i34 : f i = 34
          · have c1 := btrue i34
            have hne : i ≠ k := fun e => HN34.out (by rw [← e]; exact i34)
            have hx := deep_ne hdeep (by omega) HS.out
            have bx := bfalse hx
            have H34 : Hid (f i = 34) := i34
            have HX : Hid (x ≠ 0) := hx
            clear i34 hne hx
            go_wp2
            go_quiet (fail)
            go_wp2
            go_quiet (fail)
            go_wp2
            go_region_with (go_at_call 25; refine (strEnd_any b o n c i f _ hn hnc hin HF.out H34.out ?_).mono ?_; (intro i hi; exact hrow i hi); rintro e w2 ⟨rfl, r, rfl, hr⟩)
            all_goals
              have HD := Pl.deep_string hki HS.out HX.out H34.out hdeep hr hin
              have hir : i < r := HD.1
              have hrn : r ≤ n := HD.2.1
              have hwr : IntKind.i64.wrap ((r : Int) - 1) = (r : Int) - 1 := by rw [IntKind.wrap_i64]; omega
              rw [hwr]
              clear hwr
              go_wp2
              go_roundg (n - r)
              case measure => have := HIJ.out; omega
              case rel => exact ⟨r, x, by omega, by omega, rfl, by omega, by omega, HD.2.2.2.1, HD.2.2.2.2, (hwk.set _ (r - 1) _ (by omega)).put _ _ (by omega), below_put (below_set hbel _ _) _⟩
          · have c1 := bfalse i34
            by_cases io : f i = 123 ∨ f i = 91
            · have E := Pl.st_open hki HS.out io
              have ioo : (f i == 123) = true ∨ ((f i == 123) = false ∧ (f i == 91) = true) := by
                rcases io with e | e
                · exact Or.inl (btrue e)
                · exact Or.inr ⟨bfalse (by omega), btrue e⟩
              clear io i34
              by_cases hx : x + 1 = 0
              · have bx := btrue hx
                have R : Pl.BrOr f n k (i + 1) := br_ret hki hin hdeep E hx
                clear hx E HS
                rcases ioo with c2 | ⟨c2, c3⟩
                all_goals
                  go_wp2
                  go_quiet (fail)
                  go_wp2
                  go_quiet (fail)
                  go_wp2
                  go_quiet (fail)
                  go_wp2
                  go_ret
                  exact ⟨k, i + 1, ⟨b, o + k, none⟩, rfl, fun _ => rfl, ⟨hF, fun _ => Pl.valEnd_br HBR.out R, fun h => absurd h (by omega)⟩, (hwk.set _ _ _ (by omega)).draw _, below_drewN (below_set hbel _ _) _⟩
              · have bx := bfalse hx
                have R : Pl.Deep f k (i + 1) := br_go hdeep E hx
                have HE : Hid (Pl.st f k (i + 1) = (x + 1, 0)) := E
                clear hx E HS
                rcases ioo with c2 | ⟨c2, c3⟩
                all_goals
                  go_wp2
                  go_quiet (fail)
                  go_wp2
                  go_quiet (fail)
                  go_wp2
                  go_roundg (gk - 1)
                  case measure => omega
                  case rel => exact ⟨i + 1, x + 1, by have := HIJ.out; omega, by omega, rfl, by omega, by omega, fun _ => HE.out, R, hwk.set _ _ _ (by omega), below_set hbel _ _⟩
            · have io1 : f i ≠ 123 := fun e => io (Or.inl e)
              have io2 : f i ≠ 91 := fun e => io (Or.inr e)
              have c2 := bfalse io1
              have c3 := bfalse io2
              clear io
              by_cases iz : f i = 125 ∨ f i = 93
              · have E := Pl.st_shut hki HS.out iz
                have izz : (f i == 125) = true ∨ ((f i == 125) = false ∧ (f i == 93) = true) := by
                  rcases iz with e | e
                  · exact Or.inl (btrue e)
                  · exact Or.inr ⟨bfalse (by omega), btrue e⟩
                clear iz i34 io1 io2
                by_cases hx : x - 1 = 0
                · have bx := btrue hx
                  have R : Pl.BrOr f n k (i + 1) := br_ret hki hin hdeep E hx
                  clear hx E HS
                  rcases izz with c4 | ⟨c4, c5⟩
                  all_goals
                    go_wp2
                    go_quiet (fail)
                    go_wp2
                    go_quiet (fail)
                    go_wp2
                    go_quiet (fail)
                    go_wp2
                    go_ret
                    exact ⟨k, i + 1, ⟨b, o + k, none⟩, rfl, fun _ => rfl, ⟨hF, fun _ => Pl.valEnd_br HBR.out R, fun h => absurd h (by omega)⟩, (hwk.set _ _ _ (by omega)).draw _, below_drewN (below_set hbel _ _) _⟩
                · have bx := bfalse hx
                  have R : Pl.Deep f k (i + 1) := br_go hdeep E hx
                  have HE : Hid (Pl.st f k (i + 1) = (x - 1, 0)) := E
                  clear hx E HS
                  rcases izz with c4 | ⟨c4, c5⟩
                  all_goals
                    go_wp2
                    go_quiet (fail)
                    go_wp2
                    go_quiet (fail)
                    go_wp2
                    go_roundg (gk - 1)
                    case measure => omega
                    case rel => exact ⟨i + 1, x - 1, by have := HIJ.out; omega, by omega, rfl, by omega, by omega, fun _ => HE.out, R, hwk.set _ _ _ (by omega), below_set hbel _ _⟩
              · have iz1 : f i ≠ 125 := fun e => iz (Or.inl e)
                have iz2 : f i ≠ 93 := fun e => iz (Or.inr e)
                have c4 := bfalse iz1
                have c5 := bfalse iz2
                have hne : i ≠ k := fun e => by have := HBR.out; rw [← e] at this; omega
                have hx := deep_ne hdeep (by omega) HS.out
                have bx := bfalse hx
                have E := Pl.st_other hki HS.out i34 io1 io2 iz1 iz2
                have R : Pl.Deep f k (i + 1) := br_go hdeep E hx
                have HE : Hid (Pl.st f k (i + 1) = (x, 0)) := E
                clear hx E HS iz i34 io1 io2 iz1 iz2 hne
                go_wp2
                go_quiet (fail)
                go_wp2
                go_quiet (fail)
                go_wp2
                go_roundg (gk - 1)
                case measure => omega
                case rel => exact ⟨i + 1, x, by have := HIJ.out; omega, by omega, rfl, by omega, by omega, fun _ => HE.out, R, hwk.set _ _ _ (by omega), below_set hbel _ _⟩
        · have hin' : i = n := by omega
          subst hin'
          clear hij HIJ HST
          go_wp2
          go_quiet (fail)
          go_wp2
          go_quiet (fail)
          go_wp2
          go_ret
          exact ⟨k, i, ⟨b, o + k, none⟩, rfl, fun _ => rfl, ⟨hF, fun _ => Pl.valEnd_br HBR.out (Or.inr ⟨hdeep, rfl⟩), fun h => absurd h (by omega)⟩, (hwk.draw _).draw _, below_drewN (below_drewN hbel _) _⟩
  · have hch : ch ≠ 34 ∧ ch ≠ 123 ∧ ch ≠ 91 := by
      by_cases hlt : k < n
      · rw [h1 hlt]
        exact ⟨fun e => hstr ⟨hlt, e⟩, fun e => hbr ⟨hlt, Or.inl e⟩, fun e => hbr ⟨hlt, Or.inr e⟩⟩
      · rw [h2 (by omega)]
        omega
    have hkn : k ≤ n := hF.2.1
    have HV : ∀ r, Pl.First Pl.isDel f n k r → ValAt f n p k r := fun r hr => ⟨hF, fun hlt => by
        have e := h1 hlt
        exact Pl.valEnd_lit (by rw [← e]; exact hch.1) (by rw [← e]; exact hch.2.1) (by rw [← e]; exact hch.2.2) hr, fun hle => by
        have := hr.1
        have := hr.2.1
        omega⟩
    have b1 := bfalse hch.1
    have b2 := bfalse hch.2.1
    have b3 := bfalse hch.2.2
    clear hch h1 h2 hstr hbr
    go_wp2
    go_loopg [13] (n - k) (fun j _ wr => ∃ i : Nat, i + j = n ∧ k ≤ i ∧ Hid (∀ m, k ≤ m → m < i → Pl.isDel (f m) = false) ∧ Wk wr g b o n c i ∧ Below g w wr)
    case atStart => exact ⟨k, by omega, Nat.le_refl _, fun m h1 h2 => by omega, hwk, hbel⟩
    case round =>
      clear hd hps hfr hrow hwk hbel
      obtain ⟨i, hij, hki, HJ, hwk, hbel⟩ := hrel
      have hd := hwk.data
      have hps := hwk.pos
      have hfr := hwk.free
      have hrow := hc.below hbel hwk.below
      have HIJ : Hid (i + gk = n) := hij
      by_cases hin : i < n
      · have hcell := hrow i hin
        have hgk : 0 < gk := by omega
        clear hij
        have hq : ∀ nq, Calls Try.prog 28 #[.int .u8 (f i)] (wr.drewN nq) fun e w' => e = .returned (.bool (Pl.isDel (f i))) ∧ w' = wr.drewN nq := fun nq => isDel_q (f i) (wr.drewN nq)
        cases hdl : Pl.isDel (f i) with
        | true =>
          rw [hdl] at hq
          have HFi : Pl.First Pl.isDel f n k i := ⟨hki, by omega, HJ.out, fun _ => hdl⟩
          have hck : ¬ c = k := by omega
          clear hdl HJ
          go_wp2
          go_quiet ((go_at_call 28; exact Calls.quiet_of_same (hq _)))
          clear hq
          go_wp2
          go_quiet (fail)
          go_wp2
          go_ret
          exact ⟨k, i, ⟨b, o + k, none⟩, rfl, fun _ => rfl, HV i HFi, (hwk.draw _).draw _, below_drewN (below_drewN hbel _) _⟩
        | false =>
          rw [hdl] at hq
          have HD : Hid (Pl.isDel (f i) = false) := hdl
          clear hdl
          go_wp2
          go_quiet ((go_at_call 28; exact Calls.quiet_of_same (hq _)))
          clear hq
          go_wp2
          go_roundg (gk - 1)
          case measure => omega
          case rel => exact ⟨i + 1, by have := HIJ.out; omega, by omega, Pl.first_step HJ.out HD.out, hwk.set _ _ _ (by omega), below_set hbel _ _⟩
      · have hin' : i = n := by omega
        subst hin'
        have HFi : Pl.First Pl.isDel f i k i := ⟨hki, Nat.le_refl _, HJ.out, fun h => absurd h hin⟩
        have hdd : decide ((i : Int) < (i : Int)) = false := by simp
        clear HIJ hij HJ
        by_cases hck : c = k
        · have hik : i = k := by omega
          subst hik
          subst hck
          go_wp2
          go_quiet (fail)
          go_wp2
          go_quiet (fail)
          go_wp2
          go_ret
          exact ⟨c, c, ⟨b, o, none⟩, ret_slice (by omega) (by omega), fun h => absurd h (by omega), HV c HFi, (hwk.draw _).draw _, below_drewN (below_drewN hbel _) _⟩
        · go_wp2
          go_quiet (fail)
          go_wp2
          go_quiet (fail)
          go_wp2
          go_ret
          exact ⟨k, i, ⟨b, o + k, none⟩, rfl, fun _ => rfl, HV i HFi, (hwk.draw _).draw _, below_drewN (below_drewN hbel _) _⟩

end Go.Proofs.Qxb6000089a
