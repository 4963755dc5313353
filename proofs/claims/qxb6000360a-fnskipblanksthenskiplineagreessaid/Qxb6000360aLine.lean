import Derived.Test.Qxb6000360aBase
import Derived.Test.Qxb6000360aPlain
namespace Go.Proofs.Qxb6000360a
open Go.RowKit

/-- The scanner at block g. -/
structure Sc (w : World) (g : Nat) (v : Value) (p l : Int) : Prop where
  data : w.cell? ⟨g, 0, none⟩ = some v
  pos : w.cell? ⟨g, 1, none⟩ = some (.int .i64 p)
  line : w.cell? ⟨g, 2, none⟩ = some (.int .i64 l)
  fp : w.frozen? ⟨g, 1, none⟩ = false
  fl : w.frozen? ⟨g, 2, none⟩ = false
  size : g < w.heap.size

theorem Sc.setPos {w : World} {g : Nat} {v : Value} {p l : Int} (h : Sc w g v p l) (q q' : Int) (hq : q = q') : Sc (w.setCell ⟨g, 1, none⟩ (.int .i64 q)) g v q' l := by
  subst hq
  refine ⟨?_, ?_, ?_, ?_, ?_, ?_⟩
  · rw [World.cell?_setCell_other _ _ _ _ (by simp)]; exact h.data
  · exact World.cell?_setCell_same (u := .int .i64 p) _ _ _ h.pos
  · rw [World.cell?_setCell_other _ _ _ _ (by simp)]; exact h.line
  · have := h.fp; simpa using this
  · have := h.fl; simpa using this
  · simpa using h.size

theorem Sc.setLine {w : World} {g : Nat} {v : Value} {p l : Int} (h : Sc w g v p l) (q q' : Int) (hq : q = q') : Sc (w.setCell ⟨g, 2, none⟩ (.int .i64 q)) g v p q' := by
  subst hq
  refine ⟨?_, ?_, ?_, ?_, ?_, ?_⟩
  · rw [World.cell?_setCell_other _ _ _ _ (by simp)]; exact h.data
  · rw [World.cell?_setCell_other _ _ _ _ (by simp)]; exact h.pos
  · exact World.cell?_setCell_same (u := .int .i64 l) _ _ _ h.line
  · have := h.fp; simpa using this
  · have := h.fl; simpa using this
  · simpa using h.size

theorem Sc.draw {w : World} {g : Nat} {v : Value} {p l : Int} (h : Sc w g v p l) (m : Nat) : Sc (w.drewN m) g v p l := ⟨h.data, h.pos, h.line, h.fp, h.fl, h.size⟩

theorem Sc.made (w : World) (v : Value) (p l : Int) (t : TypeId) : Sc (w.alloc (.cells #[v, .int .i64 p, .int .i64 l] t)) w.heap.size v p l :=
  ⟨by simp, by simp, by simp, by simp, by simp, by simp⟩

theorem below_cell {w wr : World} {g : Nat} (h : Below g w wr) (o : Nat) (v : Value) : Below g w (wr.setCell ⟨g, o, none⟩ v) := h.setCell (Nat.le_refl _) v

/-- What the search answers, as a function. -/
def idxOf (f : Nat → Int) (n : Nat) (c : Int) : Int := Lib.indexByte (Lib.bytesOf ((List.range n).map f)) c.toNat.toUInt8

set_option maxHeartbeats 400000 in
theorem idx_q (b o n c : Nat) (f : Nat → Int) (cv : Int) (w : World) (hc : Row w b o n f) :
    Calls Try.prog 25 #[.slice (some ⟨b, o, none⟩) n c, .int .u8 cv] w fun e w' => e = .returned (.int .i64 (idxOf f n cv)) ∧ w' = w := by
  go_enter Try.func25, Try.ntmps25
  go_wp2
  rw [run_callFunc_extern Try.func27 (by kernel_rfl) (by kernel_rfl) (by kernel_rfl) (e := Extern.BytealgIndexByte.indexByte) (by kernel_rfl), Lib.run_indexByteSlice w b o n c ((List.range n).map f) (by simp) (fun i hi => by rw [hc i hi]; simp [hi]) cv]
  simp only [Result.andThen]
  rw [Oper.upon_value]
  go_wp2
  go_ret
  exact ⟨rfl, rfl⟩

theorem line_of_idx {f : Nat → Int} {n p : Nat} {r : Int} (hp : p ≤ n) (h : IdxIs (fun i => f (p + i)) (n - p) 10 r) : (r = -1 ∧ Pl.Line f n p n 0) ∨ ∃ m : Nat, r = m ∧ p + m < n ∧ Pl.Line f n p (p + m + 1) 1 := by
  rcases h with ⟨h1, h2⟩ | ⟨m, h1, h2, h3, h4⟩
  · refine Or.inl ⟨h1, Or.inl ⟨rfl, rfl, fun k a b => ?_⟩⟩
    have := h2 (k - p) (by omega)
    simp only [show p + (k - p) = k from by omega] at this
    exact this
  · refine Or.inr ⟨m, h1, by omega, Or.inr ⟨rfl, by omega, by omega, h3, fun k a b => ?_⟩⟩
    have := h4 (k - p) (by omega)
    simp only [show p + (k - p) = k from by omega] at this
    exact this

/-- The line count behind t newlines. -/
def lineAt (l : Int) (t : Nat) : Int := if t = 0 then l else wrap64 (l + 1)

set_option maxHeartbeats 800000 in
theorem skipLine_any (g b o n c p : Nat) (l : Int) (f : Nat → Int) (w : World) (hn : n ≤ 1048576) (hnc : n ≤ c) (hp : p ≤ n) (hf : ∀ i, 0 ≤ f i ∧ f i ≤ 255) (hs : Sc w g (.slice (some ⟨b, o, none⟩) n c) p l) (hc : Row w b o n f) :
    Calls Try.prog 23 #[.pointer (some ⟨g, 0, none⟩)] w fun e w' => e = .returned (.tuple #[]) ∧ ∃ np t : Nat, Pl.Line f n p np t ∧ Sc w' g (.slice (some ⟨b, o, none⟩) n c) np (lineAt l t) ∧ Below g w w' := by
  have hd := hs.data
  have hps := hs.pos
  have hln := hs.line
  have hfp := hs.fp
  have hfl := hs.fl
  by_cases hlt : p < n
  · have hq : ∀ nq, Calls Try.prog 25 #[.slice (some ⟨b, o + p, none⟩) (n - p) (c - p), .int .u8 10] (w.drewN nq) fun e w' => e = .returned (.int .i64 (idxOf (fun i => f (p + i)) (n - p) 10)) ∧ w' = w.drewN nq := fun nq => idx_q b (o + p) (n - p) (c - p) _ 10 (w.drewN nq) (hc.shift p)
    have hr := line_of_idx hp (idx_is (fun i => f (p + i)) (n - p) 10 (by omega) (fun i => hf _))
    change (idxOf (fun i => f (p + i)) (n - p) 10 = -1 ∧ _) ∨ ∃ m : Nat, idxOf (fun i => f (p + i)) (n - p) 10 = m ∧ _ at hr
    generalize idxOf (fun i => f (p + i)) (n - p) 10 = r at hr hq
    clear hf
    rcases hr with ⟨rfl, hL⟩ | ⟨m, rfl, hm, hL⟩
    · go_enter Try.func23, Try.ntmps23
      go_wp2
      go_quiet ((go_at_call 25; exact Calls.quiet_of_same (hq _)))
      clear hq
      go_wp2
      refine bodyPost_ret (results_none rfl _ _ _) rfl ?_
      exact ⟨rfl, n, 0, hL, (hs.draw _).setPos _ _ rfl, below_cell (below_drewN (Below.refl _ _) _) _ _⟩
    · go_enter Try.func23, Try.ntmps23
      go_wp2
      go_quiet ((go_at_call 25; exact Calls.quiet_of_same (hq _)))
      clear hq
      go_wp2
      go_end0
      exact ⟨rfl, p + m + 1, 1, hL, ((hs.draw _).setPos _ _ (by omega)).setLine _ _ rfl, below_cell (below_cell (below_drewN (Below.refl _ _) _) _ _) _ _⟩
  · have hpn : p = n := by omega
    subst hpn
    clear hf
    have hL : Pl.Line f p p p 0 := Or.inl ⟨rfl, rfl, fun k h1 h2 => by omega⟩
    have hq : ∀ (a : Addr) (c nq : Nat), Calls Try.prog 25 #[.slice (some a) 0 c, .int .u8 10] (w.drewN nq) fun e w' => e = .returned (.int .i64 (-1)) ∧ w' = w.drewN nq := fun a c nq => (idx_none a c 10 (w.drewN nq)).mono fun _ _ h => ⟨h.2, h.1⟩
    by_cases hcp : c = p
    · subst hcp
      go_enter Try.func23, Try.ntmps23
      go_wp2
      go_quiet ((go_at_call 25; exact Calls.quiet_of_same (hq _ _ _)))
      clear hq
      go_wp2
      refine bodyPost_ret (results_none rfl _ _ _) rfl ?_
      exact ⟨rfl, c, 0, hL, (hs.draw _).setPos _ _ rfl, below_cell (below_drewN (Below.refl _ _) _) _ _⟩
    · go_enter Try.func23, Try.ntmps23
      go_wp2
      go_quiet ((go_at_call 25; exact Calls.quiet_of_same (hq _ _ _)))
      clear hq
      go_wp2
      refine bodyPost_ret (results_none rfl _ _ _) rfl ?_
      exact ⟨rfl, p, 0, hL, (hs.draw _).setPos _ _ rfl, below_cell (below_drewN (Below.refl _ _) _) _ _⟩

set_option maxHeartbeats 800000 in
theorem skipLine_nil (g : Nat) (l : Int) (w : World) (hs : Sc w g (.slice none 0 0) 0 l) :
    Calls Try.prog 23 #[.pointer (some ⟨g, 0, none⟩)] w fun e w' => e = .returned (.tuple #[]) ∧ Sc w' g (.slice none 0 0) 0 l ∧ Below g w w' := by
  have hd := hs.data
  have hps := hs.pos
  have hfp := hs.fp
  have hq : ∀ nq : Nat, Calls Try.prog 25 #[.slice none 0 0, .int .u8 10] (w.drewN nq) fun e w' => e = .returned (.int .i64 (-1)) ∧ w' = w.drewN nq := fun nq => (idx_nil 10 (w.drewN nq)).mono fun _ _ h => ⟨h.2, h.1⟩
  go_enter Try.func23, Try.ntmps23
  go_wp2
  go_quiet ((go_at_call 25; exact Calls.quiet_of_same (hq _)))
  clear hq
  go_wp2
  refine bodyPost_ret (results_none rfl _ _ _) rfl ?_
  exact ⟨rfl, (hs.draw _).setPos _ _ rfl, below_cell (below_drewN (Below.refl _ _) _) _ _⟩

theorem below_made {w w' : World} {v : Obj} (h : Below w.heap.size (w.alloc v) w') : Below w.heap.size w w' := ((Below.refl _ _).alloc (Nat.le_refl _) v).trans h

set_option maxHeartbeats 800000 in
theorem zzLine_any (b o n c p : Nat) (l : Int) (f : Nat → Int) (w : World) (hn : n ≤ 1048576) (hnc : n ≤ c) (hp : p ≤ n) (hf : ∀ i, 0 ≤ f i ∧ f i ≤ 255) (hb : b < w.heap.size) (hc : Row w b o n f) :
    Calls Try.prog 18 #[.slice (some ⟨b, o, none⟩) n c, .int .i64 p, .int .i64 l] w fun e w' => ∃ np t : Nat, e = .returned (.tuple #[.int .i64 np, .int .i64 (lineAt l t)]) ∧ Pl.Line f n p np t ∧ Below w.heap.size w w' := by
  have hs := Sc.made w (.slice (some ⟨b, o, none⟩) n c) p l 34
  have hb2 : Below w.heap.size w (w.alloc (.cells #[.slice (some ⟨b, o, none⟩) n c, .int .i64 p, .int .i64 l] 34)) := (Below.refl _ _).alloc (Nat.le_refl _) _
  have hc2 := hc.below hb2 hb
  have HF : Hid (∀ i, 0 ≤ f i ∧ f i ≤ 255) := hf
  clear hf
  go_enter Try.func18, Try.ntmps18
  go_wp2_with fail
  refine (skipLine_any w.heap.size b o n c p l f _ hn hnc hp HF.out hs hc2).mono ?_
  rintro e w' ⟨rfl, np, t, hL, hs', hbel⟩
  have hps := hs'.pos
  have hln := hs'.line
  generalize hl' : lineAt l t = l' at hln hs'
  have HL : Hid (lineAt l t = l') := hl'
  clear hl'
  go_wp2
  go_quiet (fail)
  go_wp2
  go_ret2
  exact ⟨np, t, by rw [HL.out]; rfl, hL, below_drewN (below_made hbel) _⟩

set_option maxHeartbeats 800000 in
theorem zzLine_nil (l : Int) (w : World) :
    Calls Try.prog 18 #[.slice none 0 0, .int .i64 0, .int .i64 l] w fun e w' => e = .returned (.tuple #[.int .i64 0, .int .i64 l]) ∧ Below w.heap.size w w' := by
  have hs := Sc.made w (.slice none 0 0) 0 l 34
  go_enter Try.func18, Try.ntmps18
  go_wp2_with fail
  refine (skipLine_nil w.heap.size l _ hs).mono ?_
  rintro e w' ⟨rfl, hs', hbel⟩
  have hps := hs'.pos
  have hln := hs'.line
  go_wp2
  go_quiet (fail)
  go_wp2
  go_ret2
  exact ⟨rfl, below_drewN (below_made hbel) _⟩

end Go.Proofs.Qxb6000360a
