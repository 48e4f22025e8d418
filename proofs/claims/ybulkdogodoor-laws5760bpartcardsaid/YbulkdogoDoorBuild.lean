import Derived.Test.YbulkdogoDoorState
import Derived.Below
import Derived.Deep.AppendLies
import Derived.Deep.OwnRows
namespace Go.Proofs.YbulkdogoDoor
open Go.RowKit Pl

/-- Block b holds the matrix M, and none of it is frozen. -/
structure MB (w : World) (b : Nat) (M : Nat → Nat → Nat → Bool) : Prop where
  mat : MatAt w b M
  fz : ∀ k, w.frozen? ⟨b, k, none⟩ = false
  lt : b < w.heap.size
def mset (M : Nat → Nat → Nat → Bool) (l a b : Nat) : Nat → Nat → Nat → Bool := fun l' p q => if l' = l ∧ p = a ∧ q = b then true else M l' p q
theorem MB.block {w w' : World} {b : Nat} {M : Nat → Nat → Nat → Bool} (h : MB w b M) (e : w'.heap[b]? = w.heap[b]?) (hs : w.heap.size ≤ w'.heap.size) : MB w' b M := by
  refine ⟨fun l p q h1 h2 h3 => ?_, fun k => ?_, Nat.lt_of_lt_of_le h.lt hs⟩
  · rw [World.cell?_of_block (w := w) (a := ⟨b, _, none⟩) e]; exact h.mat l p q h1 h2 h3
  · rw [World.frozen?_of_block (w := w) (a := ⟨b, _, none⟩) e]; exact h.fz k
theorem MB.alloc {w : World} {b : Nat} {M : Nat → Nat → Nat → Bool} (h : MB w b M) (o : Obj) : MB (w.alloc o) b M := h.block (Below.heap_alloc _ _ _ h.lt) (by simp)
theorem MB.other {w : World} {b : Nat} {M : Nat → Nat → Nat → Bool} (h : MB w b M) {a : Addr} (ha : a.block ≠ b) (v : Value) : MB (w.setCell a v) b M := h.block (Below.heap_setCell _ _ _ _ (Ne.symm ha)) (by simp [World.setCell])
theorem MB.below {w w' : World} {b H : Nat} {M : Nat → Nat → Nat → Bool} (h : MB w b M) (hb : Below H w w') (hH : b < H) : MB w' b M := h.block (hb.block b hH) hb.size
theorem MB.set {w : World} {b : Nat} {M : Nat → Nat → Nat → Bool} (h : MB w b M) (l p q : Nat) (h1 : l < 4) (h2 : p < 64) (h3 : q < 64) : MB (w.setCell ⟨b, l * 4096 + p * 64 + q, none⟩ (.bool true)) b (mset M l p q) := by
  refine ⟨fun l' p' q' h1' h2' h3' => ?_, fun k => ?_, ?_⟩
  · unfold mset
    by_cases e : l' = l ∧ p' = p ∧ q' = q
    · obtain ⟨rfl, rfl, rfl⟩ := e
      rw [if_pos ⟨rfl, rfl, rfl⟩]
      exact World.cell?_setCell_same _ _ _ (h.mat _ _ _ h1 h2 h3)
    · rw [if_neg e]
      rw [World.cell?_setCell_other (a := ⟨b, l * 4096 + p * 64 + q, none⟩) (b := ⟨b, l' * 4096 + p' * 64 + q', none⟩) _ _ (fun e' => e (by have h' : l * 4096 + p * 64 + q = l' * 4096 + p' * 64 + q' := congrArg Addr.off e'; omega))]
      exact h.mat l' p' q' h1' h2' h3'
  · rw [World.frozen?_setCell]; exact h.fz k
  · have := h.lt; simp [World.setCell]; exact this
theorem MB.made {w : World} {Z : Array Value} {t : TypeId} (hz : ∀ i, i < 16384 → Z[i]? = some (.bool false)) {b : Nat} (hb : b = w.heap.size) : MB (w.alloc (.cells Z t)) b (fun _ _ _ => false) := by
  subst hb
  refine ⟨fun l p q h1 h2 h3 => ?_, fun k => ?_, ?_⟩
  · rw [World.cell?_alloc_at _ _ _ _ rfl]; exact hz _ (by omega)
  · exact World.frozen?_alloc_at _ _ _ _ rfl
  · simp
def Dg (M : Nat → Nat → Nat → Bool) : Prop := ∀ l p, M l p p = false
theorem Dg.mset {M : Nat → Nat → Nat → Bool} (h : Dg M) {l a b : Nat} (hab : a ≠ b) : Dg (mset M l a b) := fun l' p => by
  unfold YbulkdogoDoor.mset
  rw [if_neg (by omega)]
  exact h l' p

theorem lt_cell {w : World} {a : Addr} {v : Value} (h : w.cell? a = some v) : a.block < w.heap.size := by
  by_cases hlt : a.block < w.heap.size
  · exact hlt
  · have e : w.heap[a.block]? = none := Array.getElem?_eq_none (by omega)
    simp [World.cell?, e] at h

/-- Cells outside the blocks D are as they were. -/
def Ke (D : Nat → Prop) (w w' : World) : Prop := ∀ b o v, ¬ D b → w.cell? ⟨b, o, none⟩ = some v → w'.cell? ⟨b, o, none⟩ = some v
theorem Ke.of_below {D : Nat → Prop} {w w' : World} (h : Below w.heap.size w w') : Ke D w w' := fun b o v _ hc => by
  rw [h.cell (lt_cell hc)]; exact hc
theorem Ke.trans {D : Nat → Prop} {a b c : World} (h : Ke D a b) (k : Ke D b c) : Ke D a c := fun x o v hd hc => k x o v hd (h x o v hd hc)
theorem IL.ke {D : Nat → Prop} {w w' : World} {v : Value} {xs : List Int} (h : IL w v xs) (hk : Ke D w w') (hD : ∀ g x, w.cell? ⟨g, 0, none⟩ = some (.int .i32 x) → ¬ D g) : IL w' v xs := by
  rcases h with h | ⟨g, cap, e, hc⟩
  · exact .inl h
  · exact .inr ⟨g, cap, e, fun i hi => hk g i _ (hD g _ (hc 0 (by omega))) (hc i hi)⟩

/-- The cells xs are peer p's layers below level j. -/
def LayX (w : World) (P R : Nat → Nat → Nat → Bool) (N p j : Nat) (xs : List Value) : Prop :=
  ∀ i (_ : i < (nbs (presB P R N p) j).length), xs[i * 3]? = some (.int .i64 (nbs (presB P R N p) j)[i]) ∧ ∃ nv rv, xs[i * 3 + 1]? = some nv ∧ xs[i * 3 + 2]? = some rv ∧
      IL w nv (nbs (P (nbs (presB P R N p) j)[i].toNat p) N) ∧ IL w rv (nbs (R (nbs (presB P R N p) j)[i].toNat p) N)
theorem LayX.ke {D : Nat → Prop} {w w' : World} {P R : Nat → Nat → Nat → Bool} {N p j : Nat} {xs : List Value} (h : LayX w P R N p j xs) (hk : Ke D w w') (hD : ∀ g x, w.cell? ⟨g, 0, none⟩ = some (.int .i32 x) → ¬ D g) : LayX w' P R N p j xs := fun i hi => by
  obtain ⟨h0, nv, rv, h1, h2, h3, h4⟩ := h i hi
  exact ⟨h0, nv, rv, h1, h2, h3.ke hk hD, h4.ke hk hD⟩
theorem Lays.ke {D : Nat → Prop} {w w' : World} {P R : Nat → Nat → Nat → Bool} {N p j : Nat} {v : Value} (h : Lays w P R N p j v) (hk : Ke D w w') (hD : ∀ g x, w.cell? ⟨g, 0, none⟩ = some (.int .i32 x) → ¬ D g) (hD' : ∀ g x, w.cell? ⟨g, 0, none⟩ = some (.int .i64 x) → ¬ D g) : Lays w' P R N p j v := by
  rcases h with h | ⟨g, cap, e, hc⟩
  · exact .inl h
  · refine .inr ⟨g, cap, e, fun i hi => ?_⟩
    have hg : ¬ D g := hD' g _ (hc 0 (by omega)).1
    obtain ⟨h0, nv, rv, h1, h2, h3, h4⟩ := hc i hi
    exact ⟨hk g _ _ hg h0, nv, rv, hk g _ _ hg h1, hk g _ _ hg h2, h3.ke hk hD, h4.ke hk hD⟩
theorem LayX.lays {w : World} {P R : Nat → Nat → Nat → Bool} {N p j base : Nat} {xs : List Value} {v : Value} (h : LayX w P R N p j xs) (ho : w.ownsRow base 32 3 v (nbs (presB P R N p) j).length xs) : Lays w P R N p j v := by
  rcases ho.2 with ⟨e, h0⟩ | ⟨g, cap, cur, e, _⟩
  · exact .inl ⟨e, List.length_eq_zero_iff.1 h0⟩
  · subst e
    refine .inr ⟨g, cap, rfl, fun i hi => ?_⟩
    obtain ⟨h0, nv, rv, h1, h2, h3, h4⟩ := h i hi
    exact ⟨(ho.cellAt _ (by omega)).trans h0, nv, rv, (ho.cellAt _ (by omega)).trans h1, (ho.cellAt _ (by omega)).trans h2, h3, h4⟩
theorem owns_below {w w' : World} {base : Nat} {e : TypeId} {size : Nat} {v : Value} {n : Nat} {xs : List Value} (h : w.ownsRow base e size v n xs) (hb : Below w.heap.size w w') : w'.ownsRow base e size v n xs := by
  obtain ⟨h1, h2⟩ := h
  refine ⟨h1, ?_⟩
  rcases h2 with h2 | ⟨g, cap, cur, hv, hg, hh, r⟩
  · exact Or.inl h2
  · refine Or.inr ⟨g, cap, cur, hv, hg, ?_, r⟩
    have hlt : g < w.heap.size := by
      by_cases hlt : g < w.heap.size
      · exact hlt
      · rw [Array.getElem?_eq_none (by omega)] at hh; cases hh
    rw [hb.block g hlt]; exact hh
theorem owns_grown {w w' : World} {base : Nat} {e : TypeId} {size : Nat} {v : Value} {n : Nat} {xs : List Value} {r : Option Nat} (h : w.ownsRow base e size v n xs) (hb : w.grownBy w' r) (hr : ∀ b, v.ownBlock = some b → r ≠ some b) : w'.ownsRow base e size v n xs := by
  obtain ⟨h1, h2⟩ := h
  refine ⟨h1, ?_⟩
  rcases h2 with h2 | ⟨g, cap, cur, hv, hg, hh, k⟩
  · exact Or.inl h2
  · refine Or.inr ⟨g, cap, cur, hv, hg, ?_, k⟩
    have hlt : g < w.heap.size := by
      by_cases hlt : g < w.heap.size
      · exact hlt
      · rw [Array.getElem?_eq_none (by omega)] at hh; cases hh
    rw [hb.block g hlt (fun e => hr g (by rw [hv]; rfl) e.symm)]; exact hh
theorem owns_blk {w : World} {base : Nat} {e : TypeId} {size : Nat} {v : Value} {n : Nat} {xs : List Value} (h : w.ownsRow base e size v n xs) {b : Nat} (hb : v.ownBlock = some b) : base ≤ b ∧ b < w.heap.size := by
  rcases h.2 with ⟨e, _⟩ | ⟨g, cap, cur, hv, hg, hh, k⟩
  · rw [e] at hb; cases hb
  · rw [hv] at hb
    cases hb
    refine ⟨hg, ?_⟩
    by_cases hlt : g < w.heap.size
    · exact hlt
    · rw [Array.getElem?_eq_none (by omega)] at hh; cases hh
theorem owns_IL {w : World} {base : Nat} {v : Value} {zs : List Int} (h : w.ownsRow base 21 1 v zs.length (zs.map (Value.int .i32))) : IL w v zs := by
  rcases h.2 with ⟨e, h0⟩ | ⟨g, cap, cur, hv, _⟩
  · exact .inl ⟨e, List.length_eq_zero_iff.1 h0⟩
  · subst hv
    refine .inr ⟨g, cap, rfl, fun i hi => ?_⟩
    rw [h.cellAt i (by omega)]
    simp [hi]
theorem owns_form {w : World} {base : Nat} {e : TypeId} {size : Nat} {v : Value} {n : Nat} {xs : List Value} (h : w.ownsRow base e size v n xs) : ∃ o cap, v = .slice o n cap := by
  rcases h.2 with ⟨e, h0⟩ | ⟨g, cap, cur, hv, _⟩
  · exact ⟨none, 0, by rw [e, h0]⟩
  · exact ⟨_, _, hv⟩

structure I2 (w : World) (P R : Nat → Nat → Nat → Bool) (N U p : Nat) (f : Nat → Value) (wr : World) : Prop where
  bel : Below w.heap.size w wr
  mp : MB wr w.heap.size P
  mr : MB wr (w.heap.size + 1) R
  gt : w.heap.size + 1 < U
  row : wr.rowIs U 30 N f
  old : ∀ q, q < p → q < N → Lays wr P R N q 4 (f q)
  new : ∀ q, p ≤ q → q < N → f q = .slice none 0 0
structure I3 (w : World) (P R : Nat → Nat → Nat → Bool) (N U p : Nat) (f : Nat → Value) (wp : World) (j : Nat) (v : Value) (xs : List Value) (ws : World) : Prop where
  bel : Below w.heap.size w ws
  mp : MB ws w.heap.size P
  mr : MB ws (w.heap.size + 1) R
  row : ws.rowIs U 30 N (fun q => if q = p then v else f q)
  ke : Ke (· = U) wp ws
  sz : wp.heap.size ≤ ws.heap.size
  own : ws.ownsRow wp.heap.size 32 3 v (nbs (presB P R N p) j).length xs
  nil : (nbs (presB P R N p) j).length = 0 → v = .slice none 0 0
  lay : LayX ws P R N p j xs
structure I4 (P R : Nat → Nat → Nat → Bool) (p j : Nat) (ws : World) (q : Nat) (nb rs : Value) (wq : World) : Prop where
  bel : Below ws.heap.size ws wq
  on : wq.ownsRow ws.heap.size 21 1 nb (nbs (P j p) q).length ((nbs (P j p) q).map (Value.int .i32))
  orr : wq.ownsRow ws.heap.size 21 1 rs (nbs (R j p) q).length ((nbs (R j p) q).map (Value.int .i32))
  ap : ∀ b, nb.ownBlock = some b → rs.ownBlock ≠ some b

theorem pres1 {P R : Nat → Nat → Nat → Bool} {N p : Nat} : nbs (presB P R N p) 1 = [] := by
  rw [nbs_snoc]; simp [nbs, presB]
theorem I2.start {w wp : World} {P R : Nat → Nat → Nat → Bool} {N U p : Nat} {f : Nat → Value} (h : I2 w P R N U p f wp) (hp : p < N) : I3 w P R N U p f wp 1 (.slice none 0 0) [] wp := by
  refine ⟨h.bel, h.mp, h.mr, h.row.congr fun q _ => ?_, fun _ _ _ _ h => h, Nat.le_refl _, ?_, fun _ => rfl, fun i hi => ?_⟩
  · by_cases e : q = p
    · subst e; rw [if_pos rfl]; exact h.new q (Nat.le_refl _) hp
    · rw [if_neg e]
  · rw [pres1]; exact World.ownsRow_nil _ _ _ _
  · rw [pres1] at hi; exact absurd hi (Nat.not_lt_zero _)
theorem I2.slices {w wp : World} {P R : Nat → Nat → Nat → Bool} {N U p : Nat} {f : Nat → Value} (h : I2 w P R N U p f wp) {q : Nat} (hq : q < N) : ∃ o n c, f q = .slice o n c := by
  by_cases e : q < p
  · rcases h.old q e hq with ⟨e, _⟩ | ⟨g, cap, e, _⟩
    · exact ⟨_, _, _, e⟩
    · exact ⟨_, _, _, e⟩
  · exact ⟨_, _, _, h.new q (by omega) hq⟩
theorem I3.done {w wp ws : World} {P R : Nat → Nat → Nat → Bool} {N U p : Nat} {f : Nat → Value} {v : Value} {xs : List Value} (h2 : I2 w P R N U p f wp) (h : I3 w P R N U p f wp 4 v xs ws) (hp : p < N) : I2 w P R N U (p + 1) (fun q => if q = p then v else f q) ws := by
  have hnot : ∀ k g x, wp.cell? ⟨g, 0, none⟩ = some (.int k x) → ¬ g = U := by
    rintro k g x hc rfl
    obtain ⟨o, n, c, e⟩ := h2.slices (q := 0) (by omega)
    rw [h2.row.cell (by omega), e] at hc
    cases hc
  refine ⟨h.bel, h.mp, h.mr, h2.gt, h.row, fun q hq hqN => ?_, fun q hq hqN => ?_⟩
  · by_cases e : q = p
    · subst e; rw [if_pos rfl]; exact h.lay.lays h.own
    · rw [if_neg e]; exact (h2.old q (by omega) hqN).ke h.ke (hnot _) (hnot _)
  · rw [if_neg (by omega)]; exact h2.new q (by omega) hqN
theorem I4.start {P R : Nat → Nat → Nat → Bool} {p j : Nat} {ws : World} : I4 P R p j ws 0 (.slice none 0 0) (.slice none 0 0) ws :=
  ⟨Below.refl _ _, World.ownsRow_nil _ _ _ _, World.ownsRow_nil _ _ _ _, fun b h => by cases h⟩
/-- A level with no links: nothing is kept. -/
theorem I3.skip {w wp ws wq : World} {P R : Nat → Nat → Nat → Bool} {N U p j : Nat} {f : Nat → Value} {v : Value} {xs : List Value} (h : I3 w P R N U p f wp j v xs ws) (hU : U < wp.heap.size) (hgt : w.heap.size + 1 < U) (hb : Below ws.heap.size ws wq) (hno : presB P R N p j = false) : I3 w P R N U p f wp (j + 1) v xs wq := by
  have hs := h.sz
  have e : nbs (presB P R N p) (j + 1) = nbs (presB P R N p) j := by rw [nbs_snoc, hno]; simp
  refine ⟨h.bel.trans (hb.mono (by omega)), h.mp.below hb (by omega), h.mr.below hb (by omega), h.row.of_block (hb.block U (by omega)), h.ke.trans (Ke.of_below hb), by have := hb.size; omega, ?_, ?_, ?_⟩
  · rw [e]; exact owns_below h.own hb
  · rw [e]; exact h.nil
  · have hl := h.lay.ke (D := fun _ => False) (Ke.of_below hb) (fun _ _ _ h => h)
    unfold LayX
    rw [e]
    exact hl
/-- A level with links: one layer more. -/
theorem I3.keep {w wp ws wq w1 : World} {P R : Nat → Nat → Nat → Bool} {N U p j g cap : Nat} {f : Nat → Value} {v nb rs : Value} {xs : List Value} {O : Obj} (h2 : I2 w P R N U p f wp) (h : I3 w P R N U p f wp j v xs ws) (hp : p < N) (hb : Below ws.heap.size ws wq) (hnb : IL wq nb (nbs (P j p) N)) (hrs : IL wq rs (nbs (R j p) N)) (hyes : presB P R N p j = true)
    (hown : w1.ownsRow wp.heap.size 32 3 (.slice (some ⟨g, 0, none⟩) ((nbs (presB P R N p) j).length + 1) cap) ((nbs (presB P R N p) j).length + 1) (xs ++ [.int .i64 j, nb, rs])) (hgrow : (wq.alloc O).grownBy w1 v.ownBlock) :
    w1.cell? ⟨U, p, none⟩ = some v ∧ w1.frozen? ⟨U, p, none⟩ = false ∧ I3 w P R N U p f wp (j + 1) (.slice (some ⟨g, 0, none⟩) ((nbs (presB P R N p) j).length + 1) cap) (xs ++ [.int .i64 j, nb, rs]) (w1.setCell ⟨U, p, none⟩ (.slice (some ⟨g, 0, none⟩) ((nbs (presB P R N p) j).length + 1) cap)) := by
  have hU := h2.row.lt
  have hgt := h2.gt
  have hsz := h.sz
  have hqs := hb.size
  have e : nbs (presB P R N p) (j + 1) = nbs (presB P R N p) j ++ [(j : Int)] := by rw [nbs_snoc, hyes]; simp
  have bq : Below wp.heap.size ws w1 := ((hb.mono hsz).alloc (by omega) O).grown hgrow (by simp; omega) (fun k ek => (owns_blk h.own ek).1)
  have hrow := h.row.of_block (bq.block U hU)
  have hxl : xs.length = (nbs (presB P R N p) j).length * 3 := h.own.1
  have hslice : ∃ o n c, ws.cell? ⟨U, 0, none⟩ = some (.slice o n c) := by
    have h0 := h.row.cell (i := 0) (by omega)
    by_cases e0 : 0 = p
    · rw [if_pos e0] at h0
      obtain ⟨o, c, ev⟩ := owns_form h.own
      exact ⟨_, _, _, by rw [h0, ev]⟩
    · rw [if_neg e0] at h0
      obtain ⟨o, n, c, ev⟩ := h2.slices (q := 0) (by omega)
      exact ⟨_, _, _, by rw [h0, ev]⟩
  have hke : Ke (fun b => b = U ∨ v.ownBlock = some b) wq (w1.setCell ⟨U, p, none⟩ (.slice (some ⟨g, 0, none⟩) ((nbs (presB P R N p) j).length + 1) cap)) := by
    intro b o x hd hc
    have hlt := lt_cell hc
    simp only at hlt
    rw [World.cell?_setCell_other (a := ⟨U, p, none⟩) (b := ⟨b, o, none⟩) _ _ (fun e' => hd (.inl (congrArg Addr.block e' : U = b).symm))]
    rw [World.cell?_of_block (w := wq.alloc O) (a := ⟨b, o, none⟩) (hgrow.block b (by simp; omega) (fun e' => hd (.inr e'.symm)))]
    rw [World.cell?_alloc_lt (a := ⟨b, o, none⟩) _ _ hlt]
    exact hc
  have hD : ∀ g' x, wq.cell? ⟨g', 0, none⟩ = some (.int .i32 x) → ¬ (g' = U ∨ v.ownBlock = some g') := by
    rintro g' x hc (rfl | hg')
    · obtain ⟨o, n, c, hs⟩ := hslice
      rw [hb.cell (by simp only; omega), hs] at hc
      cases hc
    · by_cases hk : (nbs (presB P R N p) j).length = 0
      · rw [h.nil hk] at hg'; cases hg'
      · have ho := owns_below h.own hb
        rcases ho.2 with ⟨ev, _⟩ | ⟨g2, cap2, cur, ev, _⟩
        · rw [ev] at hg'; cases hg'
        · subst ev
          cases hg'
          have h0 := (h.lay 0 (by omega)).1
          rw [ho.cellAt 0 (by omega)] at hc
          rw [show 0 * 3 = 0 from rfl, hc] at h0
          cases h0
  refine ⟨?_, hrow.frozen p, ?_⟩
  · rw [hrow.cell hp, if_pos rfl]
  refine ⟨(h.bel.trans (bq.mono (by omega))).setCell (p := ⟨U, p, none⟩) (by simp only; omega) _, (h.mp.below bq (by omega)).other (a := ⟨U, p, none⟩) (by simp only; omega) _, (h.mr.below bq (by omega)).other (a := ⟨U, p, none⟩) (by simp only; omega) _, (hrow.set p _).congr fun q _ => ?_, ?_, ?_, ?_, ?_, ?_⟩
  · by_cases eq : q = p
    · rw [if_pos eq, if_pos eq]
    · rw [if_neg eq, if_neg eq, if_neg eq]
  · intro b o x hd hc
    have hlt := lt_cell hc
    simp only at hlt
    rw [World.cell?_setCell_other (a := ⟨U, p, none⟩) (b := ⟨b, o, none⟩) _ _ (fun e' => hd (congrArg Addr.block e' : U = b).symm)]
    rw [bq.cell (p := ⟨b, o, none⟩) hlt]
    exact h.ke b o x hd hc
  · have := bq.size; simp [World.setCell]; omega
  · rw [e, List.length_append]
    exact ownsRow_setCell_below hown hU _
  · intro h0; rw [e, List.length_append] at h0; simp at h0
  · unfold LayX
    rw [e]
    intro i hi
    rw [List.length_append] at hi
    simp only [List.length_cons, List.length_nil] at hi
    by_cases hik : i < (nbs (presB P R N p) j).length
    · rw [List.getElem_append_left hik]
      obtain ⟨h0, nv, rv, h1, h2, h3, h4⟩ := h.lay.ke (D := fun _ => False) (Ke.of_below hb) (fun _ _ _ h => h) i hik
      exact ⟨by rw [List.getElem?_append_left (by omega)]; exact h0, nv, rv, by rw [List.getElem?_append_left (by omega)]; exact h1, by rw [List.getElem?_append_left (by omega)]; exact h2, h3.ke hke hD, h4.ke hke hD⟩
    · obtain rfl : i = (nbs (presB P R N p) j).length := by omega
      rw [List.getElem_append_right (Nat.le_refl _)]
      simp only [Nat.sub_self, List.getElem_cons_zero, Int.toNat_natCast]
      refine ⟨?_, nb, rs, ?_, ?_, hnb.ke hke hD, hrs.ke hke hD⟩
      · rw [List.getElem?_append_right (by omega), hxl, Nat.sub_self]; rfl
      · rw [List.getElem?_append_right (by omega), hxl, Nat.add_sub_cancel_left]; rfl
      · rw [List.getElem?_append_right (by omega), hxl, Nat.add_sub_cancel_left]; rfl

/-- One link more in one of two lists. -/
theorem owns_app {ws wq w1 : World} {a b : Value} {na nb g : Nat} {xa xb : List Value} {O : Obj} (hbel : Below ws.heap.size ws wq) (ha : wq.ownsRow ws.heap.size 21 1 a na xa) (hb : wq.ownsRow ws.heap.size 21 1 b nb xb) (hap : ∀ x, a.ownBlock = some x → b.ownBlock ≠ some x) (hgrow : (wq.alloc O).grownBy w1 a.ownBlock) (hat : a.ownBlock = some g ∨ g = wq.heap.size + 1) :
    Below ws.heap.size ws w1 ∧ w1.ownsRow ws.heap.size 21 1 b nb xb ∧ b.ownBlock ≠ some g := by
  have hs := hbel.size
  refine ⟨(hbel.alloc hs O).grown hgrow (by simp; omega) (fun k ek => (owns_blk ha ek).1), owns_grown (hb.alloc O) hgrow (fun x hx e => hap x e hx), fun e => ?_⟩
  rcases hat with hat | rfl
  · exact hap g hat e
  · have := (owns_blk hb e).2; omega
theorem nbs_on {M : Nat → Bool} {q : Nat} (h : M q = true) : nbs M (q + 1) = nbs M q ++ [(q : Int)] := by rw [nbs_snoc, h]; simp
theorem nbs_off {M : Nat → Bool} {q : Nat} (h : M q = false) : nbs M (q + 1) = nbs M q := by rw [nbs_snoc, h]; simp
theorem owns_on {w : World} {base q : Nat} {M : Nat → Bool} {v : Value} (h : M q = true) (ho : w.ownsRow base 21 1 v ((nbs M q).length + 1) ((nbs M q).map (Value.int .i32) ++ [.int .i32 q])) : w.ownsRow base 21 1 v (nbs M (q + 1)).length ((nbs M (q + 1)).map (Value.int .i32)) := by
  rw [nbs_on h, List.length_append, List.map_append]; exact ho
theorem owns_off {w : World} {base q : Nat} {M : Nat → Bool} {v : Value} (h : M q = false) (ho : w.ownsRow base 21 1 v (nbs M q).length ((nbs M q).map (Value.int .i32))) : w.ownsRow base 21 1 v (nbs M (q + 1)).length ((nbs M (q + 1)).map (Value.int .i32)) := by
  rw [nbs_off h]; exact ho
theorem cell_three (w : World) (a b c : Value) (t : TypeId) : ∀ j u, [a, b, c][j]? = some u → (w.alloc (.cells #[a, b, c] t)).cell? ((⟨w.heap.size, 0, none⟩ : Addr).add j) = some u := by
  intro j u hj
  have e : (⟨w.heap.size, 0, none⟩ : Addr).add j = ⟨w.heap.size, j, none⟩ := by
    unfold Addr.add
    split
    · rename_i h; rw [h]
    · simp
  rw [e, World.cell?_alloc_at _ _ _ _ rfl]
  simpa using hj
theorem pres_of {P R : Nat → Nat → Nat → Bool} {N p j : Nat} (hj : 1 ≤ j) : presB P R N p j = (decide (0 < (nbs (P j p) N).length) || decide (0 < (nbs (R j p) N).length)) := by
  unfold presB; rw [anyV_iff, anyV_iff]; simp [hj]
end Go.Proofs.YbulkdogoDoor
