/-
  A '[][]byte' THAT CAME IN, opened: what the walks are told of it.
-/
import Derived.Test.Qxb6601719aData
import Derived.ProofKit
import Derived.OpenShut
import Derived.Deep.Slices
import Derived.Deep.Strs
namespace Go.Proofs.Qxb6601719a
open Go.ChangeShapes Go.WideShapes Go.ChangeAt Go.RowKit Go.Deep
set_option linter.unusedVariables false

theorem Try.cells5 : Try.prog.cellsOf 5 = 1 := by kernel_rfl
theorem Try.cells22 : Try.prog.cellsOf 22 = 1 := by kernel_rfl

section
variable {H : Type} {enc : TypeId × Value → H} {w : World} {base : Nat} {held : Bool}

/-- One line. -/
theorem open_line {n : Nat} {v : Value} {x : DataW H × List MemPlace} (h : DataW.trod enc Try.prog w base (fun _ => true) held n 22 [v] = some x) :
    ∃ (a : Option Addr) (len cap b o : Nat) (Z : Nat → UInt8), v = .slice a len cap ∧ len ≤ maxLen ∧ (a = none → len = 0) ∧ ∀ c, c < len → a = some ⟨b, o, none⟩ ∧ w.cell? ⟨b, o + c, none⟩ = some (.int .u8 ((Z c).toNat : Int)) := by
  rcases open_slice1 Try.underlying22 Try.cells5 h with ⟨hcs, _⟩ | ⟨a, len, cap, m, k, V, D, Pl, hcs, _, hl, hm, hmm, _, hx⟩
  · simp at hcs
    subst hcs
    exact ⟨none, 0, 0, 0, 0, fun _ => 0, rfl, Nat.zero_le _, fun _ => rfl, fun c hc => absurd hc (Nat.not_lt_zero _)⟩
  · simp at hcs
    subst hcs
    simp only [if_true] at hmm
    subst hmm
    obtain ⟨Z, hZ⟩ := choose_lt (n := len) (p := fun i (q : UInt8) => w.cell? (a.add i) = some (.int .u8 (q.toNat : Int)))
      (fun i hi => by
        obtain ⟨h1, h2⟩ := hx i (by omega)
        obtain ⟨t, e0, _, wt⟩ := DataW.trod_int Try.underlying5 h2
        simp at e0
        have hb := bounds_u8 wt
        refine ⟨UInt8.ofNat t.toNat, ?_⟩
        rw [h1, e0, UInt8.toNat_ofNat']
        congr 2
        omega)
    obtain ⟨b, o, spot⟩ := a
    refine ⟨some ⟨b, o, spot⟩, len, m, b, o, Z, rfl, by omega, (fun e => by cases e), fun c hc => ?_⟩
    have h0 := hZ c hc
    have hs : spot = none := by have := World.cell?_spot (hZ 0 (by omega)); simpa [Addr.add] using this
    subst hs
    rw [add_plain] at h0
    exact ⟨rfl, h0⟩

theorem open_lines {fuel : Nat} {v : Value} {x : DataW H × List MemPlace} (h : DataW.trod enc Try.prog w base (fun _ => true) held fuel 25 [v] = some x) :
    ∃ (ga : Option Addr) (G Gc : Nat) (A : Nat → Option Addr) (L C RB RO : Nat → Nat) (X : Nat → Nat → UInt8) (gb go : Nat), v = .slice ga G Gc ∧ LinesAt w ga G A L C RB RO X gb go := by
  rcases open_slice1 Try.underlying25 Try.cells22 h with ⟨hcs, _⟩ | ⟨a, len, cap, m, k, V, D, Pl, hcs, _, hl, hm, hmm, _, hx⟩
  · simp at hcs
    subst hcs
    exact ⟨none, 0, 0, fun _ => none, fun _ => 0, fun _ => 0, fun _ => 0, fun _ => 0, fun _ _ => 0, 0, 0, rfl,
      ⟨fun h => absurd h (Nat.not_lt_zero _), fun r h => absurd h (Nat.not_lt_zero _), fun r h => absurd h (Nat.not_lt_zero _), fun r h => absurd h (Nat.not_lt_zero _), fun r h => absurd h (Nat.not_lt_zero _), fun r h => absurd h (Nat.not_lt_zero _), by omega⟩⟩
  · simp at hcs
    subst hcs
    simp only [if_true] at hmm
    subst hmm
    obtain ⟨y, hy⟩ := choose_lt (n := len) (p := fun r (y : Option Addr × Nat × Nat × Nat × Nat × (Nat → UInt8)) => V r = .slice y.1 y.2.1 y.2.2.1 ∧ y.2.1 ≤ maxLen ∧ (y.1 = none → y.2.1 = 0) ∧ ∀ c, c < y.2.1 → y.1 = some ⟨y.2.2.2.1, y.2.2.2.2.1, none⟩ ∧ w.cell? ⟨y.2.2.2.1, y.2.2.2.2.1 + c, none⟩ = some (.int .u8 ((y.2.2.2.2.2 c).toNat : Int)))
      (fun r hr => by
        obtain ⟨a', l', c', b', o', Z, h1, h2, h3, h4⟩ := open_line (hx r (by omega)).2
        exact ⟨(a', l', c', b', o', Z), h1, h2, h3, h4⟩)
    obtain ⟨b, o, spot⟩ := a
    have hsp : 0 < len → spot = none := fun h0 => by have := World.cell?_spot (hx 0 (by omega)).1; simpa [Addr.add] using this
    refine ⟨some ⟨b, o, spot⟩, len, m, fun r => (y r).1, fun r => (y r).2.1, fun r => (y r).2.2.1, fun r => (y r).2.2.2.1, fun r => (y r).2.2.2.2.1, fun r c => ((y r).2.2.2.2.2 c), b, o, rfl, ?_⟩
    have hmx : maxLen = 9223372036854775807 := rfl
    refine ⟨fun h0 => by rw [hsp h0], fun r hr => ?_, fun r hr => (hy r hr).2.2.1, fun r hr c hc => ((hy r hr).2.2.2 c hc).1, fun r hr c hc => ((hy r hr).2.2.2 c hc).2, fun r hr => by have := (hy r hr).2.1; omega, by omega⟩
    have e := (hx r (by omega)).1
    rw [(hy r hr).1] at e
    have hs := hsp (by omega)
    subst hs
    rw [add_plain] at e
    exact e
end
end Go.Proofs.Qxb6601719a
