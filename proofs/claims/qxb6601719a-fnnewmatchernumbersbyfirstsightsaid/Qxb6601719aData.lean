/-
  WHAT THE WALKS ARE TOLD OF A SLICE OF BYTE SLICES ('[][]byte'), and the numbering by first sight.
-/
import Derived.Test.Qxb6601719aRows
import Derived.WalkKit
import Derived.WalkSpells
import Derived.WalkLawsBesides
import Derived.Deep.LoopGhost
import Derived.Deep.OwnRows
import Derived.Deep.Light
import Derived.Deep.QuietTactic
import Derived.BigQuiet
import Derived.Deep.RegionWith
import Derived.Deep.RegionHeld3
import Derived.Maps.OwnSet
import Derived.Laws.IdiomStrings
import Derived.Laws.BytesArg
namespace Go.Proofs.Qxb6601719a
open Go.RowKit
set_option linter.unusedVariables false

def Answers (p : Bool → Prop) (e : Ending) : Prop := ∃ b, e = .returned (.bool b) ∧ p b
theorem Answers.mk {p : Bool → Prop} {e : Ending} (b : Bool) (h : e = .returned (.bool b)) (hp : p b) : Answers p e := ⟨b, h, hp⟩

/-- 'ga' leads to G lines; line r is the slice value (A r) (L r) (C r); its byte c is X r c. -/
structure LinesAt (w : World) (ga : Option Addr) (G : Nat) (A : Nat → Option Addr) (L C RB RO : Nat → Nat) (X : Nat → Nat → UInt8) (gb go : Nat) : Prop where
  ga : 0 < G → ga = some ⟨gb, go, none⟩
  row : ∀ r, r < G → w.cell? ⟨gb, go + r, none⟩ = some (.slice (A r) (L r) (C r))
  nil : ∀ r, r < G → A r = none → L r = 0
  addr : ∀ r, r < G → ∀ c, c < L r → A r = some ⟨RB r, RO r, none⟩
  byte : ∀ r, r < G → ∀ c, c < L r → w.cell? ⟨RB r, RO r + c, none⟩ = some (.int .u8 ((X r c).toNat : Int))
  bdL : ∀ r, r < G → L r ≤ 9223372036854775807
  bdG : G ≤ 9223372036854775807

theorem LinesAt.move {w w' : World} {ga : Option Addr} {G : Nat} {A : Nat → Option Addr} {L C RB RO : Nat → Nat} {X : Nat → Nat → UInt8} {gb go : Nat}
    (g : LinesAt w ga G A L C RB RO X gb go) (k : ∀ a v, w.cell? a = some v → w'.cell? a = some v) : LinesAt w' ga G A L C RB RO X gb go :=
  ⟨g.ga, fun r hr => k _ _ (g.row r hr), g.nil, g.addr, fun r hr c hc => k _ _ (g.byte r hr c hc), g.bdL, g.bdG⟩

theorem LinesAt.later {w w' : World} {ga : Option Addr} {G : Nat} {A : Nat → Option Addr} {L C RB RO : Nat → Nat} {X : Nat → Nat → UInt8} {gb go : Nat}
    (g : LinesAt w ga G A L C RB RO X gb go) {B : Nat} (h : w.Since B w') (hB : w.heap.size ≤ B) : LinesAt w' ga G A L C RB RO X gb go :=
  g.move fun a v e => by rw [h.cell (Nat.lt_of_lt_of_le (World.block_lt_of_cell? _ _ e) hB)]; exact e

/-- A cell lies in no map's block. -/
theorem cell_not_map {w : World} {a : Addr} {v : Value} {B : Nat} {es : Array MapEntry} {clock : Nat} (h : w.cell? a = some v) (hm : w.heap[B]? = some (.map es clock)) : a.block ≠ B := by
  intro e
  subst e
  simp [World.cell?, hm] at h

theorem LinesAt.but {w w' : World} {ga : Option Addr} {G : Nat} {A : Nat → Option Addr} {L C RB RO : Nat → Nat} {X : Nat → Nat → UInt8} {gb go : Nat}
    (g : LinesAt w ga G A L C RB RO X gb go) {B : Nat} {es : Array MapEntry} {clock : Nat} (hm : w.heap[B]? = some (.map es clock)) (h : w.grownBy w' (some B)) : LinesAt w' ga G A L C RB RO X gb go :=
  g.move fun a v e => h.cell e (fun k => cell_not_map e hm (Option.some.inj k))

theorem since_chain {w a b : World} (h : w.Since w.heap.size a) (k : a.Since a.heap.size b) : w.Since w.heap.size b :=
  h.trans ⟨k.os, k.tape, k.output, k.size, fun i hi => k.block i (Nat.lt_of_lt_of_le hi h.size)⟩

/-- Line r, as bytes. -/
def ln (L : Nat → Nat) (X : Nat → Nat → UInt8) (r : Nat) : List UInt8 := (List.range (L r)).map (X r)
theorem ln_length (L : Nat → Nat) (X : Nat → Nat → UInt8) (r : Nat) : (ln L X r).length = L r := by simp [ln]
theorem ln_get (L : Nat → Nat) (X : Nat → Nat → UInt8) (r j : Nat) (h : j < (ln L X r).length) : (ln L X r)[j] = X r j := by simp [ln]
theorem ln_ext {L L' : Nat → Nat} {X X' : Nat → Nat → UInt8} {r r' : Nat} (h1 : L r = L' r') (h2 : ∀ c, c < L r → X r c = X' r' c) : ln L X r = ln L' X' r' := by
  apply List.ext_getElem
  · rw [ln_length, ln_length, h1]
  · intro i h3 h4
    rw [ln_get, ln_get, h2 i (by rw [ln_length] at h3; exact h3)]
theorem ln_eq {L L' : Nat → Nat} {X X' : Nat → Nat → UInt8} {r r' : Nat} (h : ln L X r = ln L' X' r') : L r = L' r' ∧ ∀ c, c < L r → X r c = X' r' c := by
  have hl : L r = L' r' := by rw [← ln_length L X r, h, ln_length]
  refine ⟨hl, fun c hc => ?_⟩
  have e1 := ln_get L X r c (by rw [ln_length]; exact hc)
  have e2 := ln_get L' X' r' c (by rw [ln_length, ← hl]; exact hc)
  rw [← e1, ← e2]
  simp [h]

/-- 'string(line)'. -/
theorem LinesAt.convert {w : World} {ga : Option Addr} {G : Nat} {A : Nat → Option Addr} {L C RB RO : Nat → Nat} {X : Nat → Nat → UInt8} {gb go : Nat}
    (g : LinesAt w ga G A L C RB RO X gb go) {r : Nat} (hr : r < G) : (convert 22 9 (.slice (A r) (L r) (C r))).run Try.prog w = .ok (.string ⟨(ln L X r).toArray⟩) w := by
  cases hA : A r with
  | none =>
    have h0 := g.nil r hr hA
    rw [h0, run_convert_bytes_nil (P := Try.prog) w 22 5 Try.underlying22 Try.underlying5 0 (C r) 9 Try.underlying9]
    simp [ln, h0]
    rfl
  | some a =>
    have := run_convert_bytes_back (P := Try.prog) w 22 9 5 a (C r) (ln L X r) Try.underlying22 Try.underlying5 Try.underlying9 (fun j hj => by
      have hj' : j < L r := by rw [ln_length] at hj; exact hj
      have ea := g.addr r hr j hj'
      rw [hA] at ea
      obtain rfl := Option.some.inj ea
      rw [ln_get]
      have := g.byte r hr j hj'
      rw [Addr.add_lit]; exact this)
    rw [ln_length] at this
    exact this

/-! ### the numbering by first sight, of any row of things -/
section
variable {α : Type} [DecidableEq α]

/-- The first place where what stands at p stands. -/
def firstFrom (K : Nat → α) (p : Nat) : Nat → Nat → Nat
  | 0, q => q
  | f + 1, q => if K q = K p then q else firstFrom K p f (q + 1)
def firstIx (K : Nat → α) (p : Nat) : Nat := firstFrom K p p 0
theorem firstFrom_at (K : Nat → α) (p q : Nat) : ∀ f, f + q = p → q ≤ firstFrom K p f q ∧ firstFrom K p f q ≤ p ∧ K (firstFrom K p f q) = K p ∧ ∀ j, q ≤ j → j < firstFrom K p f q → K j ≠ K p := by
  intro f
  induction f generalizing q with
  | zero => intro h; simp only [firstFrom]; have : q = p := by omega
            subst this; exact ⟨Nat.le_refl _, Nat.le_refl _, rfl, fun j h1 h2 => by omega⟩
  | succ f ih =>
    intro h
    simp only [firstFrom]
    by_cases e : K q = K p
    · rw [if_pos e]; exact ⟨Nat.le_refl _, by omega, e, fun j h1 h2 => by omega⟩
    · rw [if_neg e]
      obtain ⟨h1, h2, h3, h4⟩ := ih (q + 1) (by omega)
      refine ⟨by omega, h2, h3, fun j h5 h6 => ?_⟩
      by_cases e2 : j = q
      · subst e2; exact e
      · exact h4 j (by omega) h6
theorem firstIx_le (K : Nat → α) (p : Nat) : firstIx K p ≤ p := (firstFrom_at K p 0 p rfl).2.1
theorem firstIx_eq (K : Nat → α) (p : Nat) : K (firstIx K p) = K p := (firstFrom_at K p 0 p rfl).2.2.1
theorem firstIx_lt (K : Nat → α) (p j : Nat) (h : j < firstIx K p) : K j ≠ K p := (firstFrom_at K p 0 p rfl).2.2.2 j (Nat.zero_le _) h
theorem firstIx_uniq (K : Nat → α) (p q : Nat) (h1 : K q = K p) (h2 : ∀ j, j < q → K j ≠ K p) : firstIx K p = q := by
  have a := firstIx_eq K p
  by_cases e : firstIx K p < q
  · exact absurd a (h2 _ e)
  · by_cases e2 : q < firstIx K p
    · exact absurd h1 (firstIx_lt K p q e2)
    · omega
theorem firstIx_congr (K : Nat → α) (p q : Nat) (h : K q = K p) : firstIx K q = firstIx K p :=
  firstIx_uniq K q _ ((firstIx_eq K p).trans h.symm) (fun j hj e => firstIx_lt K p j hj (e.trans h))
theorem firstIx_first (K : Nat → α) (p : Nat) : firstIx K (firstIx K p) = firstIx K p := firstIx_congr K p _ (firstIx_eq K p)

/-- How many different things stand below p. -/
def cnt (K : Nat → α) : Nat → Nat
  | 0 => 0
  | p + 1 => cnt K p + if firstIx K p = p then 1 else 0
theorem cnt_le (K : Nat → α) (p : Nat) : cnt K p ≤ p := by
  induction p with
  | zero => exact Nat.le_refl _
  | succ p ih => simp only [cnt]; split <;> omega
/-- THE NUMBER by first sight. -/
def num (K : Nat → α) (p : Nat) : Nat := cnt K (firstIx K p)
theorem num_le (K : Nat → α) (p : Nat) : num K p ≤ p := Nat.le_trans (cnt_le K _) (firstIx_le K p)
theorem num_new (K : Nat → α) (p : Nat) (h : firstIx K p = p) : num K p = cnt K p := by rw [num, h]
theorem num_old (K : Nat → α) (p q : Nat) (h : K q = K p) : num K p = num K q := by rw [num, num, firstIx_congr K p q h]
end

/-- What stands at p in a's lines followed by b's. -/
def both (G : Nat) (L : Nat → Nat) (X : Nat → Nat → UInt8) (L' : Nat → Nat) (X' : Nat → Nat → UInt8) (p : Nat) : List UInt8 := if p < G then ln L X p else ln L' X' (p - G)

/-- What the map holds when the things below p have been seen. -/
structure Seen (K : Nat → List UInt8) (p : Nat) (D : DataW Unit) : Prop where
  tidy : Maps.Tidy D
  size : Maps.size D = cnt K p
  hit : ∀ q, q < p → Maps.has D (.string (K q)) = true
  miss : ∀ l, (∀ q, q < p → K q ≠ l) → Maps.has D (.string l) = false
  val : ∀ q, q < p → D.atKey (.string (K q)) (.lit (.int .i64 0)) = .lit (.int .i64 (num K q : Int))

theorem Seen.start (K : Nat → List UInt8) : Seen K 0 (.map []) :=
  ⟨Maps.tidy_empty, rfl, fun q h => absurd h (Nat.not_lt_zero _), fun l _ => rfl, fun q h => absurd h (Nat.not_lt_zero _)⟩

theorem Seen.has_iff {K : Nat → List UInt8} {p : Nat} {D : DataW Unit} (h : Seen K p D) : Maps.has D (.string (K p)) = true ↔ firstIx K p < p := by
  constructor
  · intro hh
    by_cases e : firstIx K p < p
    · exact e
    · have hp : firstIx K p = p := by have := firstIx_le K p; omega
      rw [h.miss (K p) (fun q hq => firstIx_lt K p q (by omega))] at hh
      cases hh
  · intro hh
    have := h.hit _ hh
    rwa [firstIx_eq K p] at this

theorem Seen.old {K : Nat → List UInt8} {p : Nat} {D : DataW Unit} (h : Seen K p D) (hh : firstIx K p < p) : Seen K (p + 1) D ∧ D.atKey (.string (K p)) (.lit (.int .i64 0)) = .lit (.int .i64 (num K p : Int)) := by
  have hv : D.atKey (.string (K p)) (.lit (.int .i64 0)) = .lit (.int .i64 (num K p : Int)) := by
    have := h.val _ hh
    rw [firstIx_eq K p, ← num_old K p _ (firstIx_eq K p)] at this
    exact this
  have hhas := h.has_iff.2 hh
  refine ⟨⟨h.tidy, ?_, fun q hq => ?_, fun l hl => h.miss l (fun q hq => hl q (by omega)), fun q hq => ?_⟩, hv⟩
  · rw [h.size, cnt, if_neg (by omega), Nat.add_zero]
  · by_cases e : q = p
    · subst e; exact hhas
    · exact h.hit q (by omega)
  · by_cases e : q = p
    · subst e; exact hv
    · exact h.val q (by omega)

theorem Seen.fresh {K : Nat → List UInt8} {p : Nat} {D : DataW Unit} (h : Seen K p D) (hh : firstIx K p = p) : Seen K (p + 1) (D.put (.string (K p)) (.lit (.int .i64 (cnt K p : Int)))) := by
  have hno : Maps.has D (.string (K p)) = false := h.miss (K p) (fun q hq => firstIx_lt K p q (by omega))
  have hk : WideAt.IsKeyLit (.string (K p)) := by trivial
  refine ⟨h.tidy.put hk _, ?_, fun q hq => ?_, fun l hl => ?_, fun q hq => ?_⟩
  · rw [Maps.size_put h.tidy, hno, h.size, cnt, if_pos hh]; rfl
  · by_cases e : K q = K p
    · rw [e]; exact Maps.has_put_same h.tidy.isMap hk _
    · rw [Maps.has_put_other (fun k => e (by injection k))]
      exact h.hit q (by have : q ≠ p := fun k => e (by rw [k])
                        omega)
  · rw [Maps.has_put_other (fun k => hl p (by omega) (by injection k with k; exact k.symm))]
    exact h.miss l (fun q hq => hl q (by omega))
  · by_cases e : K q = K p
    · rw [e, Maps.atKey_put_same h.tidy.isMap hk, num_old K q p e.symm, num_new K p hh]
    · rw [Maps.atKey_put_other (fun k => e (by injection k))]
      exact h.val q (by have : q ≠ p := fun k => e (by rw [k])
                        omega)

end Go.Proofs.Qxb6601719a
