import Derived.Test.Qxb6000089aModel
import Derived.Deep.LoopGhost
import Derived.Deep.QuietTactic
import Derived.BigQuiet
namespace Go.Proofs.Qxb6000089a
open Go.RowKit

/-- The Walker at block g: its data, its place. -/
structure Wk (w : World) (g b o n c p : Nat) : Prop where
  data : w.cell? ⟨g, 0, none⟩ = some (.slice (some ⟨b, o, none⟩) n c)
  pos : w.cell? ⟨g, 1, none⟩ = some (.int .i64 p)
  free : w.frozen? ⟨g, 1, none⟩ = false
  below : b < g
  size : g < w.heap.size

theorem Row.below {w w' : World} {g b o n : Nat} {f : Nat → Int} (h : Row w b o n f) (hb : Below g w w') (hl : b < g) : Row w' b o n f := fun i hi => (hb.cell (p := ⟨b, o + i, none⟩) hl).trans (h i hi)

theorem Wk.set {w : World} {g b o n c p : Nat} (h : Wk w g b o n c p) (m q : Nat) (v : Int) (hv : v = q) : Wk ((w.drewN m).setCell ⟨g, 1, none⟩ (.int .i64 v)) g b o n c q := by
  subst hv
  refine ⟨?_, ?_, ?_, h.below, ?_⟩
  · rw [World.cell?_setCell_other _ _ _ _ (by simp)]; exact h.data
  · exact World.cell?_setCell_same (u := .int .i64 p) _ _ _ h.pos
  · have := h.free; simpa using this
  · simpa using h.size

theorem Wk.draw {w : World} {g b o n c p : Nat} (h : Wk w g b o n c p) (m : Nat) : Wk (w.drewN m) g b o n c p := ⟨h.data, h.pos, h.free, h.below, h.size⟩

theorem below_set {w wr : World} {g : Nat} (h : Below g w wr) (m : Nat) (v : Value) : Below g w ((wr.drewN m).setCell ⟨g, 1, none⟩ v) :=
  (below_drewN h m).setCell (Nat.le_refl _) v

theorem ret_u8 {a b : Int} (h : a = b) : Ending.returned (.int .u8 a) = .returned (.int .u8 b) := by rw [h]

set_option maxHeartbeats 800000 in
theorem next_any (g b o n c p : Nat) (f : Nat → Int) (w : World) (hn : n ≤ 1048576) (hp : p ≤ n) (hw : Wk w g b o n c p) (hc : Row w b o n f) :
    Calls Try.prog 16 #[.pointer (some ⟨g, 0, none⟩)] w fun e w' => ∃ (k : Nat) (ch : Int), e = .returned (.int .u8 ch) ∧ Pl.First Pl.notSp f n p k ∧ (k < n → ch = f k) ∧ (n ≤ k → ch = 0) ∧ Wk w' g b o n c k ∧ Below g w w' := by
  go_enter Try.func16, Try.ntmps16
  go_wp2
  go_loopg [3] (n - p) (fun j _ wr => ∃ k : Nat, k + j = n ∧ p ≤ k ∧ Hid (∀ i, p ≤ i → i < k → Pl.notSp (f i) = false) ∧ Wk wr g b o n c k ∧ Below g w wr)
  case atStart => exact ⟨p, by omega, Nat.le_refl _, fun i h1 h2 => by omega, hw, Below.refl _ _⟩
  case round =>
    obtain ⟨k, hkj, hpk, HJ, hwk, hbel⟩ := hrel
    have hd := hwk.data
    have hps := hwk.pos
    have hfr := hwk.free
    have hrow := hc.below hbel hwk.below
    have HKJ : Hid (k + gk = n) := hkj
    by_cases hlt : k < n
    · have hcell := hrow k hlt
      have hgk : 0 < gk := by omega
      clear hkj
      cases hsp : Pl.isSp (f k) with
      | true =>
        have hsp' : f k = 32 ∨ f k = 9 ∨ f k = 10 ∨ f k = 13 := by simpa [Pl.isSp] using hsp
        have HN : Hid (Pl.notSp (f k) = false) := by simp [Hid, Pl.notSp, hsp]
        clear hsp
        go_wp2
        go_quiet (fail)
        go_wp2
        go_quiet (fail)
        rcases hsp' with e | e | e | e
        · have b1 := btrue e
          clear e
          go_wp2
          go_roundg (gk - 1)
          case measure => omega
          case rel => exact ⟨k + 1, by have := HKJ.out; omega, by omega, Pl.first_step HJ.out HN.out, hwk.set _ _ _ (by omega), below_set hbel _ _⟩
        · have b0 : (f k == 32) = false := bfalse (by omega)
          have b1 := btrue e
          clear e
          go_wp2
          go_roundg (gk - 1)
          case measure => omega
          case rel => exact ⟨k + 1, by have := HKJ.out; omega, by omega, Pl.first_step HJ.out HN.out, hwk.set _ _ _ (by omega), below_set hbel _ _⟩
        · have b0 : (f k == 32) = false := bfalse (by omega)
          have b2 : (f k == 9) = false := bfalse (by omega)
          have b1 := btrue e
          clear e
          go_wp2
          go_roundg (gk - 1)
          case measure => omega
          case rel => exact ⟨k + 1, by have := HKJ.out; omega, by omega, Pl.first_step HJ.out HN.out, hwk.set _ _ _ (by omega), below_set hbel _ _⟩
        · have b0 : (f k == 32) = false := bfalse (by omega)
          have b2 : (f k == 9) = false := bfalse (by omega)
          have b3 : (f k == 10) = false := bfalse (by omega)
          have b1 := btrue e
          clear e
          go_wp2
          go_roundg (gk - 1)
          case measure => omega
          case rel => exact ⟨k + 1, by have := HKJ.out; omega, by omega, Pl.first_step HJ.out HN.out, hwk.set _ _ _ (by omega), below_set hbel _ _⟩
      | false =>
        have hsp' : ¬ (f k = 32 ∨ f k = 9 ∨ f k = 10 ∨ f k = 13) := by simpa [Pl.isSp] using hsp
        have HF : Pl.First Pl.notSp f n p k := ⟨hpk, by omega, HJ.out, fun _ => by simp [Pl.notSp, hsp]⟩
        have b0 : (f k == 32) = false := bfalse (by omega)
        have b1 : (f k == 9) = false := bfalse (by omega)
        have b2 : (f k == 10) = false := bfalse (by omega)
        have b3 : (f k == 13) = false := bfalse (by omega)
        clear hsp hsp' HJ
        go_wp2
        go_quiet (fail)
        go_wp2
        go_quiet (fail)
        go_wp2
        go_ret
        exact ⟨k, f k, rfl, HF, fun _ => rfl, fun h => absurd h (by omega), hwk.draw _, below_drewN hbel _⟩
    · have HF : Pl.First Pl.notSp f n p k := ⟨hpk, by omega, HJ.out, fun h => absurd h hlt⟩
      clear HJ hkj
      go_wp2
      go_quiet (fail)
      go_wp2
      go_ret
      exact ⟨k, 0, rfl, HF, fun h => absurd h hlt, fun _ => rfl, hwk.draw _, below_drewN hbel _⟩

end Go.Proofs.Qxb6000089a
