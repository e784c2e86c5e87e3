/-
  WHAT A WALK KEEPS THAT WRITES INTO SOME NAMED BLOCKS; the views' own variable; the list of runs.
-/
import Derived.Test.Qxb6601390aLIn2
import Derived.Test.Qxb6601390aLIn3
import Derived.Deep.AppendLies
namespace Go.Proofs.Qxb6601390a
open Go.RowKit Plain

/-- w' IS w BUT FOR THE BLOCKS of which 'b' holds, and new ones. -/
structure Keeps (b : Nat → Prop) (w w' : World) : Prop where
  os : w'.os = w.os
  tape : w'.tape = w.tape
  output : w'.output = w.output
  size : w.heap.size ≤ w'.heap.size
  block : ∀ k, k < w.heap.size → ¬ b k → w'.heap[k]? = w.heap[k]?
namespace Keeps
variable {b : Nat → Prop} {w w' w'' : World}
theorem refl (b : Nat → Prop) (w : World) : Keeps b w w := ⟨rfl, rfl, rfl, Nat.le_refl _, fun _ _ _ => rfl⟩
theorem trans (h : Keeps b w w') (k : Keeps b w' w'') : Keeps b w w'' :=
  ⟨k.os.trans h.os, k.tape.trans h.tape, k.output.trans h.output, Nat.le_trans h.size k.size, fun i hi hb => (k.block i (Nat.lt_of_lt_of_le hi h.size) hb).trans (h.block i hi hb)⟩
theorem drewN (h : Keeps b w w') (n : Nat) : Keeps b w (w'.drewN n) := ⟨h.os, h.tape, h.output, h.size, h.block⟩
theorem drew (h : Keeps b w w') : Keeps b w w'.drew := ⟨h.os, h.tape, h.output, h.size, h.block⟩
theorem alloc (h : Keeps b w w') (o : Obj) : Keeps b w (w'.alloc o) :=
  h.trans ⟨rfl, rfl, rfl, by rw [Go.Deep.nblk_alloc]; omega, fun k hk _ => Go.Deep.blk_alloc_lt _ _ _ hk⟩
theorem setCell (h : Keeps b w w') {a : Addr} (ha : b a.block) (v : Value) : Keeps b w (w'.setCell a v) :=
  h.trans ⟨rfl, rfl, rfl, by rw [Go.Deep.nblk_setCell]; exact Nat.le_refl _, fun k _ hb => Go.Deep.blk_setCell_other _ _ _ _ (fun e => hb (by rw [e]; exact ha))⟩
/-- A store into a block that is newer than w. -/
theorem setNew (h : Keeps b w w') {a : Addr} (ha : w.heap.size ≤ a.block) (v : Value) : Keeps b w (w'.setCell a v) :=
  ⟨h.os, h.tape, h.output, by rw [Go.Deep.nblk_setCell]; exact h.size, fun k hk hb => (Go.Deep.blk_setCell_other _ _ _ _ (by omega)).trans (h.block k hk hb)⟩
theorem grown {row : Option Nat} (h : Keeps b w w') (hg : w'.grownBy w'' row) (hr : ∀ k, row = some k → b k ∨ w.heap.size ≤ k) : Keeps b w w'' :=
  ⟨hg.os.trans h.os, hg.tape.trans h.tape, hg.output.trans h.output, Nat.le_trans h.size hg.size, fun k hk hb =>
    (hg.block k (Nat.lt_of_lt_of_le hk h.size) (fun e => by
      rcases hr k e.symm with g | g
      · exact hb g
      · omega)).trans (h.block k hk hb)⟩
theorem cell (h : Keeps b w w') {a : Addr} {v : Value} (hv : w.cell? a = some v) (hb : ¬ b a.block) : w'.cell? a = some v := by
  rw [World.cell?_of_block (w := w) (h.block _ (World.block_lt_of_cell? _ _ hv) hb)]; exact hv
theorem row (h : Keeps b w w') {k : Nat} {t : TypeId} {n : Nat} {f : Nat → Value} (hr : w.rowIs k t n f) (hb : ¬ b k) : w'.rowIs k t n f := hr.of_block (h.block _ hr.lt hb)
theorem ints (h : Keeps b w w') {k : IntKind} {a : Option Addr} {n : Nat} {X : Nat → Int} {q o : Nat} (hi : IntsAt k w a n X q o) (hb : 0 < n → ¬ b q) : IntsAt k w' a n X q o :=
  ⟨hi.addr, fun i hn => h.cell (hi.cell i hn) (hb (by omega))⟩
theorem writes (h : Keeps b w w') {d : Wd} {m : Wm} (hw : WritesAt w d m) (h1 : 0 < d.n → ¬ b m.b) (h2 : ∀ t, t < d.n → 0 < d.l t → ¬ b (m.rb t)) : WritesAt w' d m :=
  ⟨hw.addr, fun t ht => h.cell (hw.row t ht) (h1 (by omega)), hw.nil, hw.ra, fun t ht j hj => h.cell (hw.cv t ht j hj) (h2 t ht (by omega)), fun t ht j hj => h.cell (hw.cf t ht j hj) (h2 t ht (by omega)), hw.bv, hw.bl, hw.bN⟩
theorem since (h : Keeps b w w') {B : Nat} (hB : B ≤ w.heap.size) (hb : ∀ k, k < B → ¬ b k) : w.Since B w' :=
  ⟨h.os, h.tape, h.output, h.size, fun k hk => h.block k (by omega) (hb k hk)⟩
end Keeps

/-- The cells of the views' variable. -/
def vwCell (z : Nat → Value) (V R W I : Value) (q : Nat) : Value := if q = 1 then V else if q = 3 then R else if q = 6 then W else if q = 11 then I else z q

/-- The cells of a list of runs. -/
def cells4 (l : List (Value × Value × Value × Value)) : List Value := l.flatMap fun q => [q.1, q.2.1, q.2.2.1, q.2.2.2]
theorem cells4_snoc (l : List (Value × Value × Value × Value)) (x y z u : Value) : cells4 (l ++ [(x, y, z, u)]) = cells4 l ++ [x, y, z, u] := by simp [cells4]
theorem length_cells4 (l : List (Value × Value × Value × Value)) : (cells4 l).length = l.length * 4 := by
  induction l with
  | nil => rfl
  | cons a l ih => simp only [cells4, List.flatMap_cons, List.length_append, List.length_cons, List.length_nil] at ih ⊢; omega
theorem cells4_get (l : List (Value × Value × Value × Value)) {k : Nat} {q : Value × Value × Value × Value} (h : l[k]? = some q) :
    (cells4 l)[k * 4]? = some q.1 ∧ (cells4 l)[k * 4 + 1]? = some q.2.1 ∧ (cells4 l)[k * 4 + 2]? = some q.2.2.1 ∧ (cells4 l)[k * 4 + 3]? = some q.2.2.2 := by
  induction l generalizing k with
  | nil => simp at h
  | cons a l ih =>
    have e : cells4 (a :: l) = [a.1, a.2.1, a.2.2.1, a.2.2.2] ++ cells4 l := rfl
    cases k with
    | zero => simp at h; subst h; rw [e]; exact ⟨rfl, rfl, rfl, rfl⟩
    | succ k =>
      have h' : l[k]? = some q := by simpa using h
      obtain ⟨h0, h1, h2, h3⟩ := ih h'
      rw [e]
      refine ⟨?_, ?_, ?_, ?_⟩
      · rw [List.getElem?_append_right (by simp; omega)]; simpa [Nat.succ_mul] using h0
      · rw [List.getElem?_append_right (by simp; omega)]; rw [show (k + 1) * 4 + 1 - [a.1, a.2.1, a.2.2.1, a.2.2.2].length = k * 4 + 1 by simp; omega]; exact h1
      · rw [List.getElem?_append_right (by simp; omega)]; rw [show (k + 1) * 4 + 2 - [a.1, a.2.1, a.2.2.1, a.2.2.2].length = k * 4 + 2 by simp; omega]; exact h2
      · rw [List.getElem?_append_right (by simp; omega)]; rw [show (k + 1) * 4 + 3 - [a.1, a.2.1, a.2.2.1, a.2.2.2].length = k * 4 + 3 by simp; omega]; exact h3

/-- The value v owns the list of runs l. -/
def OwnsR (w : World) (base : Nat) (v : Value) (l : List (Value × Value × Value × Value)) : Prop := w.ownsRow base 56 4 v l.length (cells4 l)
theorem OwnsR.cells {w : World} {base : Nat} {v : Value} {l : List (Value × Value × Value × Value)} (h : OwnsR w base v l) {k : Nat} {q : Value × Value × Value × Value} (hk : l[k]? = some q) :
    ∃ g cap, v = .slice (some ⟨g, 0, none⟩) l.length cap ∧ base ≤ g ∧ w.cell? ⟨g, k * 4, none⟩ = some q.1 ∧ w.cell? ⟨g, k * 4 + 1, none⟩ = some q.2.1 ∧ w.cell? ⟨g, k * 4 + 2, none⟩ = some q.2.2.1 ∧ w.cell? ⟨g, k * 4 + 3, none⟩ = some q.2.2.2 := by
  have hlt : k < l.length := (List.getElem?_eq_some_iff.1 hk).1
  obtain ⟨h1, h2⟩ := h
  rcases h2 with ⟨_, h0⟩ | ⟨g, cap, cur, hv, hb, hg, hn, hm, hsz, hx⟩
  · omega
  obtain ⟨c0, c1, c2, c3⟩ := cells4_get l hk
  have key : ∀ j v, j < l.length * 4 → (cells4 l)[j]? = some v → w.cell? ⟨g, j, none⟩ = some v := fun j v hj hv' => by
    rw [← hx, List.getElem?_take_of_lt hj, Array.getElem?_toList] at hv'
    simp [World.cell?, hg, hv']
  exact ⟨g, cap, hv, hb, key _ _ (by omega) c0, key _ _ (by omega) c1, key _ _ (by omega) c2, key _ _ (by omega) c3⟩
theorem OwnsR.nil (w : World) (base : Nat) : OwnsR w base (.slice none 0 0) [] := ⟨rfl, .inl ⟨rfl, rfl⟩⟩
/-- The owned list stays owned where its block is kept. -/
theorem OwnsR.of_block {w w' : World} {base : Nat} {v : Value} {l : List (Value × Value × Value × Value)} (h : OwnsR w base v l) (e : ∀ k, v.ownBlock = some k → w'.heap[k]? = w.heap[k]?) : OwnsR w' base v l := by
  obtain ⟨h1, h2⟩ := h
  refine ⟨h1, ?_⟩
  rcases h2 with h2 | ⟨g, cap, cur, hv, hb, hg, r⟩
  · exact .inl h2
  · exact .inr ⟨g, cap, cur, hv, hb, (e g (by rw [hv]; rfl)).trans hg, r⟩
/-- Out of a row that was made. -/
theorem OwnsR.ofRow {w : World} {g n base : Nat} {A B C D : Nat → Value} (h : w.rowIs g 56 (n * 4) (quad A B C D)) (hb : base ≤ g) (hn : n ≤ 1048576) : OwnsR w base (.slice (some ⟨g, 0, none⟩) n n) ((List.range n).map fun i => (A i, B i, C i, D i)) := by
  obtain ⟨cur, hg, hs, hc⟩ := h
  have hmx : maxLen = 9223372036854775807 := rfl
  have hl : ((List.range n).map fun i => (A i, B i, C i, D i)).length = n := by simp
  refine ⟨length_cells4 _, .inr ⟨g, n, cur, by rw [hl], hb, hg, by rw [hl]; exact Nat.le_refl _, by omega, by rw [hs], ?_⟩⟩
  rw [hl, List.take_of_length_le (by simp [hs])]
  apply List.ext_getElem?
  intro j
  by_cases hj : j < n * 4
  · rw [Array.getElem?_toList, hc j hj]
    have hk : j / 4 < n := by omega
    have hq : ((List.range n).map fun i => (A i, B i, C i, D i))[j / 4]? = some (A (j / 4), B (j / 4), C (j / 4), D (j / 4)) := by
      rw [List.getElem?_map, List.getElem?_range hk]; rfl
    obtain ⟨c0, c1, c2, c3⟩ := cells4_get _ hq
    have : j % 4 = 0 ∨ j % 4 = 1 ∨ j % 4 = 2 ∨ j % 4 = 3 := by omega
    rcases this with e | e | e | e
    · rw [show j = j / 4 * 4 by omega, c0, quad0]
    · rw [show j = j / 4 * 4 + 1 by omega, quad1]
      exact c1.symm
    · rw [show j = j / 4 * 4 + 2 by omega, quad2]
      exact c2.symm
    · rw [show j = j / 4 * 4 + 3 by omega, quad3]
      exact c3.symm
  · rw [List.getElem?_eq_none (by simp; omega), List.getElem?_eq_none (by rw [length_cells4, hl]; omega)]
end Go.Proofs.Qxb6601390a
