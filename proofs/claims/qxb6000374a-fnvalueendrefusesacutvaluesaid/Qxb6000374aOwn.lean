import Derived.Test.Qxb6000374aPlain3
import Derived.Test.Qxb6000374aBase
namespace Go.Proofs.Qxb6000374a
open Go.RowKit
set_option linter.unusedVariables false

theorem info4 : (Try.prog.info? 4).map (fun i => (i.zero, i.size, i.bytes)) = some (some (.bool false), 1, 1) := by kernel_rfl

def intsV (xs : List Int) : List Value := xs.map (Value.int .u8)
def boolsV (xs : List Bool) : List Value := xs.map Value.bool

theorem owns_lt {w : World} {B e g n cap : Nat} {xs : List Value} (h : w.ownsRow B e 1 (.slice (some ⟨g, 0, none⟩) n cap) n xs) : g < w.heap.size ∧ B ≤ g ∧ xs.length = n := by
  refine ⟨?_, ?_, by simpa using h.1⟩
  · rcases h.2 with ⟨h', _⟩ | ⟨g', cap', cur, h', _, hg, _⟩
    · simp at h'
    · simp only [Value.slice.injEq, Option.some.injEq, Addr.mk.injEq, and_true, true_and] at h'
      obtain ⟨rfl, rfl⟩ := h'
      rcases Nat.lt_or_ge g w.heap.size with hh | hh
      · exact hh
      · rw [Array.getElem?_eq_none hh] at hg; cases hg
  · rcases h.2 with ⟨h', _⟩ | ⟨g', cap', cur, h', hb, hg, _⟩
    · simp at h'
    · simp only [Value.slice.injEq, Option.some.injEq, Addr.mk.injEq, and_true, true_and] at h'
      obtain ⟨rfl, rfl⟩ := h'
      exact hb

/-- What is owned from a later block on is owned from an earlier one on. -/
theorem owns_base {w : World} {B B' e size n : Nat} {v : Value} {xs : List Value} (h : w.ownsRow B e size v n xs) (hB : B' ≤ B) : w.ownsRow B' e size v n xs := by
  refine ⟨h.1, ?_⟩
  rcases h.2 with h' | ⟨g', cap', cur, h1, h2, h3⟩
  · exact Or.inl h'
  · exact Or.inr ⟨g', cap', cur, h1, Nat.le_trans hB h2, h3⟩

/-- AN APPEND TO A SLICE OF THE CALL's OWN, one cell an element, of one byte each: the row stays where it was, or lies in a new block. -/
theorem append_one {P : Program} (w : World) {ops : Array Oper} {rest : List Oper} {o : Oper} {a : Act} {Q : Exit → Act → World → Prop}
    (hg : o.guard = none) (s x : Operand) (t : TypeId) (hop : o.op = Op.call { callee := Callee.builtin Builtin.append, args := #[s, x], argTypes := #[t, t] })
    (base e : TypeId) (i : TypeInfo) (z : Value) (h1 : P.underlying t = some (.slice e)) (h2 : P.info? e = some i) (h3 : i.zero = some z) (h4 : i.size = 1) (h5 : i.bytes = 1) (h6 : z.cells.size = 1)
    (g n cap : Nat) (xs : List Value) (hs : a.eval s = .slice (some ⟨g, 0, none⟩) n cap) (hown : w.ownsRow base e 1 (.slice (some ⟨g, 0, none⟩) n cap) n xs)
    (ad : Addr) (m c : Nat) (news : List Value) (hx : a.eval x = .slice (some ad) m c) (hn : news.length = m) (hc : ∀ j u, news[j]? = some u → w.cell? (ad.add j) = some u) (h1c : ∀ u ∈ news, u.oneCell' = true)
    (hm : 0 < m) (b1 : n + m ≤ 140737488355328) (hbase : base ≤ w.heap.size)
    (hK : ∀ (g' cap' : Nat) (w' : World), w'.ownsRow base e 1 (.slice (some ⟨g', 0, none⟩) (n + m) cap') (n + m) (xs ++ news) → w.grownBy w' (some g) → (g' = g ∨ w.heap.size ≤ g') → wpList P ops Q rest (a.put o.dst (.slice (some ⟨g', 0, none⟩) (n + m) cap')) w') :
    wpList P ops Q (o :: rest) a w := by
  by_cases hfit : n + m ≤ cap
  · exact wpList_append_fits w hg s x t hop base e i 1 h1 h2 h4 g n cap xs hs hown ad m c news hx (by omega) hc h1c hfit (fun w' ho hgr => hK g cap w' ho hgr (Or.inl rfl))
  · have hlen : xs.length = n := (owns_lt hown).2.2
    refine wpList_append_grows w hg s x t hop e i z 1 1 h1 h2 h3 h4 h5 h6 (by decide) (some ⟨g, 0, none⟩) n cap xs hs (fun h => by cases h) (by omega) (fun b hb j u hu => ?_) ad m c news hx (by omega) hc h1c (by omega) (by unfold maxLen; omega) (by omega) (fun v' w' ho hgr => ?_)
    · obtain rfl := Option.some.inj hb
      have hj : j < n := by have := (List.getElem?_eq_some_iff.1 hu).1; omega
      rw [Addr.add_lit, Nat.zero_add, hown.cellAt j (by omega), hu]
    · rcases ho.2 with ⟨hv, h0⟩ | ⟨g', cap', cur, hv, hb, hrest⟩
      · omega
      · subst hv
        refine hK g' cap' w' (owns_base ho hbase) ?_ (Or.inr hb)
        exact ⟨hgr.os, hgr.tape, hgr.output, hgr.size, fun k hk hne => hgr.block k hk (by simp)⟩

/-- The state of zzWriteValue's three slices: the text, the open brackets, the firsts. -/
structure Wv (w0 w : World) (no go co nk gk ck nf gf cf : Nat) (xs ks : List Int) (fs : List Bool) : Prop where
  o : w.ownsRow w0.heap.size 5 1 (.slice (some ⟨go, 0, none⟩) no co) no (intsV xs)
  k : w.ownsRow w0.heap.size 5 1 (.slice (some ⟨gk, 0, none⟩) nk ck) nk (intsV ks)
  f : w.ownsRow w0.heap.size 4 1 (.slice (some ⟨gf, 0, none⟩) nf cf) nf (boolsV fs)
  ok : go ≠ gk
  ofs : go ≠ gf
  kf : gk ≠ gf
  bel : Below w0.heap.size w0 w

theorem intsV_one (xs : List Int) : ∀ u ∈ intsV xs, u.oneCell' = true := by
  intro u hu
  obtain ⟨_, _, rfl⟩ := List.mem_map.1 hu
  rfl
theorem boolsV_one (xs : List Bool) : ∀ u ∈ boolsV xs, u.oneCell' = true := by
  intro u hu
  obtain ⟨_, _, rfl⟩ := List.mem_map.1 hu
  rfl

theorem intsV_app (a b : List Int) : intsV a ++ intsV b = intsV (a ++ b) := by simp [intsV]
theorem boolsV_app (a b : List Bool) : boolsV a ++ boolsV b = boolsV (a ++ b) := by simp [boolsV]

/-- The cells of a slice that was laid in place lie in the new block. -/
theorem new_cells (w : World) (vs : List Value) (t : TypeId) : ∀ j u, vs[j]? = some u → (w.alloc (.cells vs.toArray t)).cell? ((⟨w.heap.size, 0, none⟩ : Addr).add j) = some u := by
  intro j u h
  rw [Addr.add_lit, Nat.zero_add, World.cell?_alloc_at]
  · simpa using h
  · rfl

section
variable {w0 w w' : World} {no go co nk gk ck nf gf cf : Nat} {xs ks : List Int} {fs : List Bool}

theorem Wv.lenO (h : Wv w0 w no go co nk gk ck nf gf cf xs ks fs) : xs.length = no := by have := (owns_lt h.o).2.2; simpa [intsV] using this
theorem Wv.lenK (h : Wv w0 w no go co nk gk ck nf gf cf xs ks fs) : ks.length = nk := by have := (owns_lt h.k).2.2; simpa [intsV] using this
theorem Wv.lenF (h : Wv w0 w no go co nk gk ck nf gf cf xs ks fs) : fs.length = nf := by have := (owns_lt h.f).2.2; simpa [boolsV] using this

theorem Wv.alloc (h : Wv w0 w no go co nk gk ck nf gf cf xs ks fs) (b : Obj) : Wv w0 (w.alloc b) no go co nk gk ck nf gf cf xs ks fs :=
  ⟨h.o.alloc _, h.k.alloc _, h.f.alloc _, h.ok, h.ofs, h.kf, h.bel.alloc h.bel.size _⟩

theorem Wv.grewO {no' go' co' : Nat} {xs' : List Int} (h : Wv w0 w no go co nk gk ck nf gf cf xs ks fs) (ho : w'.ownsRow w0.heap.size 5 1 (.slice (some ⟨go', 0, none⟩) no' co') no' (intsV xs')) (hg : w.grownBy w' (some go)) (hn : go' = go ∨ w.heap.size ≤ go') :
    Wv w0 w' no' go' co' nk gk ck nf gf cf xs' ks fs := by
  have l1 := (owns_lt h.k).1
  have l2 := (owns_lt h.f).1
  have := h.ok; have := h.ofs
  have l3 := (owns_lt h.o).2.1
  exact ⟨ho, h.k.kept hg (Or.inr (by simp [Value.ownBlock]; omega)), h.f.kept hg (Or.inr (by simp [Value.ownBlock]; omega)), by omega, by omega, h.kf, h.bel.grown hg h.bel.size (by intro k e; cases e; exact l3)⟩

theorem Wv.grewK {nk' gk' ck' : Nat} {ks' : List Int} (h : Wv w0 w no go co nk gk ck nf gf cf xs ks fs) (hk : w'.ownsRow w0.heap.size 5 1 (.slice (some ⟨gk', 0, none⟩) nk' ck') nk' (intsV ks')) (hg : w.grownBy w' (some gk)) (hn : gk' = gk ∨ w.heap.size ≤ gk') :
    Wv w0 w' no go co nk' gk' ck' nf gf cf xs ks' fs := by
  have l1 := (owns_lt h.o).1
  have l2 := (owns_lt h.f).1
  have := h.ok; have := h.kf
  have l3 := (owns_lt h.k).2.1
  exact ⟨h.o.kept hg (Or.inr (by simp [Value.ownBlock]; omega)), hk, h.f.kept hg (Or.inr (by simp [Value.ownBlock]; omega)), by omega, h.ofs, by omega, h.bel.grown hg h.bel.size (by intro k e; cases e; exact l3)⟩

theorem Wv.grewF {nf' gf' cf' : Nat} {fs' : List Bool} (h : Wv w0 w no go co nk gk ck nf gf cf xs ks fs) (hf : w'.ownsRow w0.heap.size 4 1 (.slice (some ⟨gf', 0, none⟩) nf' cf') nf' (boolsV fs')) (hg : w.grownBy w' (some gf)) (hn : gf' = gf ∨ w.heap.size ≤ gf') :
    Wv w0 w' no go co nk gk ck nf' gf' cf' xs ks fs' := by
  have l1 := (owns_lt h.o).1
  have l2 := (owns_lt h.k).1
  have := h.ofs; have := h.kf
  have l3 := (owns_lt h.f).2.1
  exact ⟨h.o.kept hg (Or.inr (by simp [Value.ownBlock]; omega)), h.k.kept hg (Or.inr (by simp [Value.ownBlock]; omega)), hf, h.ok, by omega, by omega, h.bel.grown hg h.bel.size (by intro k e; cases e; exact l3)⟩

theorem Wv.popK {n : Nat} (h : Wv w0 w no go co (n + 1) gk ck nf gf cf xs ks fs) : Wv w0 w no go co n gk ck nf gf cf xs (ks.take n) fs := by
  have lk := h.lenK
  refine ⟨h.o, ownsRow_pop (last := intsV (ks.drop n)) (by simp [intsV, lk]) ?_, h.f, h.ok, h.ofs, h.kf, h.bel⟩
  have : intsV (ks.take n) ++ intsV (ks.drop n) = intsV ks := by simp [intsV]
  rw [this]; exact h.k

theorem Wv.popF {n : Nat} (h : Wv w0 w no go co nk gk ck (n + 1) gf cf xs ks fs) : Wv w0 w no go co nk gk ck n gf cf xs ks (fs.take n) := by
  have lf := h.lenF
  refine ⟨h.o, h.k, ownsRow_pop (last := boolsV (fs.drop n)) (by simp [boolsV, lf]) ?_, h.ok, h.ofs, h.kf, h.bel⟩
  have : boolsV (fs.take n) ++ boolsV (fs.drop n) = boolsV fs := by simp [boolsV]
  rw [this]; exact h.f

theorem Wv.cellK (h : Wv w0 w no go co nk gk ck nf gf cf xs ks fs) (j : Nat) (hj : j < nk) : w.cell? ⟨gk, j, none⟩ = some (.int .u8 (ks.getD j 0)) := by
  have l := h.lenK
  rw [h.k.cellAt j (by omega)]
  simp [intsV, List.getD, show j < ks.length by omega]
theorem Wv.cellF (h : Wv w0 w no go co nk gk ck nf gf cf xs ks fs) (j : Nat) (hj : j < nf) : w.cell? ⟨gf, j, none⟩ = some (.bool (fs.getD j false)) := by
  have l := h.lenF
  rw [h.f.cellAt j (by omega)]
  simp [boolsV, List.getD, show j < fs.length by omega]

theorem Wv.setF (h : Wv w0 w no go co nk gk ck nf gf cf xs ks fs) (j : Nat) (v : Bool) : Wv w0 (w.setCell ⟨gf, j, none⟩ (.bool v)) no go co nk gk ck nf gf cf xs ks (fs.set j v) := by
  have s := h.f.stored j (.bool v)
  have l := (owns_lt h.f).2.1
  have := h.ok; have := h.ofs; have := h.kf
  refine ⟨h.o.kept s.2 (Or.inr (by simp [Value.ownBlock]; omega)), h.k.kept s.2 (Or.inr (by simp [Value.ownBlock]; omega)), ?_, h.ok, h.ofs, h.kf, h.bel.setCell l _⟩
  have e : boolsV (fs.set j v) = (boolsV fs).set j (.bool v) := by simp [boolsV]
  rw [e]; exact s.1

/-! ### The three appends, as laws of the walk: the bytes that are appended have just been laid in a block of their own. -/
variable {ops : Array Oper} {rest : List Oper} {o : Oper} {a : Act} {Q : Exit → Act → World → Prop}

theorem app_out (h : Wv w0 w no go co nk gk ck nf gf cf xs ks fs) (bs : List Int) (m : Nat) (hm : bs.length = m) (hpos : 0 < m) (hm9 : m ≤ 9) (hno : no ≤ 1048576) (s x : Operand) (hgd : o.guard = none)
    (hop : o.op = Op.call { callee := Callee.builtin Builtin.append, args := #[s, x], argTypes := #[22, 22] }) (hs : a.eval s = .slice (some ⟨go, 0, none⟩) no co) (hx : a.eval x = .slice (some ⟨w.heap.size, 0, none⟩) m m)
    (hK : ∀ (no' go' co' : Nat) (w' : World), Hid (no' = no + m) → Wv w0 w' no' go' co' nk gk ck nf gf cf (xs ++ bs) ks fs → wpList Try.prog ops Q rest (a.put o.dst (.slice (some ⟨go', 0, none⟩) no' co')) w') :
    wpList Try.prog ops Q (o :: rest) a (w.alloc (.cells (intsV bs).toArray 5)) := by
  obtain ⟨i0, hi, hz0, hz1, hz2⟩ := info_parts info5
  have hA := h.alloc (.cells (intsV bs).toArray 5)
  refine append_one _ hgd s x 22 hop w0.heap.size 5 i0 (.int .u8 0) Try.underlying22 hi hz0 hz1 hz2 rfl go no co (intsV xs) hs hA.o ⟨w.heap.size, 0, none⟩ m m (intsV bs) hx (by simp [intsV, hm]) (new_cells w (intsV bs) 5) (intsV_one _) hpos (by omega) hA.bel.size (fun g' c' w' ho hg hn => ?_)
  rw [intsV_app] at ho
  exact hK (no + m) g' c' w' rfl (hA.grewO ho hg hn)

theorem app_k (h : Wv w0 w no go co nk gk ck nf gf cf xs ks fs) (c : Int) (hnk : nk ≤ 1048576) (s x : Operand) (hgd : o.guard = none)
    (hop : o.op = Op.call { callee := Callee.builtin Builtin.append, args := #[s, x], argTypes := #[22, 22] }) (hs : a.eval s = .slice (some ⟨gk, 0, none⟩) nk ck) (hx : a.eval x = .slice (some ⟨w.heap.size, 0, none⟩) 1 1)
    (hK : ∀ (nk' gk' ck' : Nat) (w' : World), Hid (nk' = nk + 1) → Wv w0 w' no go co nk' gk' ck' nf gf cf xs (ks ++ [c]) fs → wpList Try.prog ops Q rest (a.put o.dst (.slice (some ⟨gk', 0, none⟩) nk' ck')) w') :
    wpList Try.prog ops Q (o :: rest) a (w.alloc (.cells (intsV [c]).toArray 5)) := by
  obtain ⟨i0, hi, hz0, hz1, hz2⟩ := info_parts info5
  have hA := h.alloc (.cells (intsV [c]).toArray 5)
  refine append_one _ hgd s x 22 hop w0.heap.size 5 i0 (.int .u8 0) Try.underlying22 hi hz0 hz1 hz2 rfl gk nk ck (intsV ks) hs hA.k ⟨w.heap.size, 0, none⟩ 1 1 (intsV [c]) hx rfl (new_cells w (intsV [c]) 5) (intsV_one _) (by omega) (by omega) hA.bel.size (fun g' c' w' ho hg hn => ?_)
  rw [intsV_app] at ho
  exact hK (nk + 1) g' c' w' rfl (hA.grewK ho hg hn)

theorem app_f (h : Wv w0 w no go co nk gk ck nf gf cf xs ks fs) (b : Bool) (hnf : nf ≤ 1048576) (s x : Operand) (hgd : o.guard = none)
    (hop : o.op = Op.call { callee := Callee.builtin Builtin.append, args := #[s, x], argTypes := #[41, 41] }) (hs : a.eval s = .slice (some ⟨gf, 0, none⟩) nf cf) (hx : a.eval x = .slice (some ⟨w.heap.size, 0, none⟩) 1 1)
    (hK : ∀ (nf' gf' cf' : Nat) (w' : World), Hid (nf' = nf + 1) → Wv w0 w' no go co nk gk ck nf' gf' cf' xs ks (fs ++ [b]) → wpList Try.prog ops Q rest (a.put o.dst (.slice (some ⟨gf', 0, none⟩) nf' cf')) w') :
    wpList Try.prog ops Q (o :: rest) a (w.alloc (.cells (boolsV [b]).toArray 4)) := by
  obtain ⟨i0, hi, hz0, hz1, hz2⟩ := info_parts info4
  have hA := h.alloc (.cells (boolsV [b]).toArray 4)
  refine append_one _ hgd s x 41 hop w0.heap.size 4 i0 (.bool false) Try.underlying41 hi hz0 hz1 hz2 rfl gf nf cf (boolsV fs) hs hA.f ⟨w.heap.size, 0, none⟩ 1 1 (boolsV [b]) hx rfl (new_cells w (boolsV [b]) 4) (boolsV_one _) (by omega) (by omega) hA.bel.size (fun g' c' w' ho hg hn => ?_)
  rw [boolsV_app] at ho
  exact hK (nf + 1) g' c' w' rfl (hA.grewF ho hg hn)
end

end Go.Proofs.Qxb6000374a
