/-
  A '[][]ArcB1' THAT CAME IN, opened: what the walks are told of it.
-/
import Derived.Test.Qxb6601390aGrid
import Derived.ProofKit
import Derived.OpenShut
import Derived.Deep.Slices
import Derived.Deep.Strs
namespace Go.Proofs.Qxb6601390a
open Go.ChangeShapes Go.WideShapes Go.ChangeAt Go.RowKit Go.Deep

theorem Try.cells21 : Try.prog.cellsOf 21 = 1 := by kernel_rfl
theorem Try.cells80 : Try.prog.cellsOf 80 = 1 := by kernel_rfl
theorem Try.cells82 : Try.prog.cellsOf 82 = 3 := by kernel_rfl

theorem len_three {α : Type} (l : List α) (h : l.length = 3) : ∃ a b c, l = [a, b, c] := by
  match l, h with
  | [a, b, c], _ => exact ⟨a, b, c, rfl⟩

section
variable {H : Type} {enc : TypeId × Value → H} {w : World} {base : Nat} {held : Bool}

/-- One arc: three numbers in three cells. -/
theorem open_arc {n : Nat} {a : Addr} {i : Nat} {cs : List Value} {x : DataW H × List MemPlace} (hc : w.cells? base (a.add (i * 3)) 3 = some cs) (h : DataW.trod enc Try.prog w base (fun _ => true) held n 82 cs = some x) :
    ∃ q : Int × Int × Int, w.cell? (a.add (i * 3)) = some (.int .i32 q.1) ∧ w.cell? (a.add (i * 3 + 1)) = some (.int .i32 q.2.1) ∧ w.cell? (a.add (i * 3 + 2)) = some (.int .i32 q.2.2) ∧ (Lit.int .i32 q.1).wf = true := by
  obtain ⟨_, hlen, hcell⟩ := World.cells?_some hc
  obtain ⟨y0, y1, y2, m, _, _, g0, g1, g2⟩ := trod_struct3 Try.underlying82 h
  obtain ⟨v0, v1, v2, rfl⟩ := len_three cs hlen
  obtain ⟨t, e0, _, wt⟩ := DataW.trod_int Try.underlying21 g0
  obtain ⟨hd, e1, _, _⟩ := DataW.trod_int Try.underlying21 g1
  obtain ⟨it, e2, _, _⟩ := DataW.trod_int Try.underlying21 g2
  simp [Try.cells21] at e0 e1 e2
  subst e0 e1 e2
  have c0 := hcell 0 (by omega)
  have c1 := hcell 1 (by omega)
  have c2 := hcell 2 (by omega)
  rw [Go.Deep.add_add] at c0 c1 c2
  exact ⟨(t, hd, it), by simpa using c0, by simpa using c1, by simpa using c2, wt⟩

/-- One row of arcs. -/
theorem open_arcs {n : Nat} {v : Value} {x : DataW H × List MemPlace} (h : DataW.trod enc Try.prog w base (fun _ => true) held n 80 [v] = some x) :
    ∃ (a : Option Addr) (len cap b o : Nat) (Z : Nat → Int × Int × Int), v = .slice a len cap ∧ len ≤ maxLen ∧ (a = none → len = 0) ∧ ∀ c, c < len → a = some ⟨b, o, none⟩ ∧ w.cell? ⟨b, o + c * 3, none⟩ = some (.int .i32 (Z c).1) ∧
      w.cell? ⟨b, o + c * 3 + 1, none⟩ = some (.int .i32 (Z c).2.1) ∧ w.cell? ⟨b, o + c * 3 + 2, none⟩ = some (.int .i32 (Z c).2.2) ∧ (Lit.int .i32 (Z c).1).wf = true := by
  rcases open_slice Try.underlying80 h with ⟨hcs, _⟩ | ⟨a, len, cap, m, k, D, Pl, hcs, _, hl, hm, hmm, _, hx⟩
  · simp at hcs
    subst hcs
    exact ⟨none, 0, 0, 0, 0, fun _ => (0, 0, 0), rfl, Nat.zero_le _, fun _ => rfl, fun c hc => absurd hc (Nat.not_lt_zero _)⟩
  · simp at hcs
    subst hcs
    simp only [if_true] at hmm
    subst hmm
    rw [Try.cells82] at hx
    obtain ⟨Z, hZ⟩ := choose_lt (n := len) (p := fun i (q : Int × Int × Int) => w.cell? (a.add (i * 3)) = some (.int .i32 q.1) ∧ w.cell? (a.add (i * 3 + 1)) = some (.int .i32 q.2.1) ∧ w.cell? (a.add (i * 3 + 2)) = some (.int .i32 q.2.2) ∧ (Lit.int .i32 q.1).wf = true)
      (fun i hi => by obtain ⟨cs', h1, h2⟩ := hx i (by omega); exact open_arc h1 h2)
    obtain ⟨b, o, spot⟩ := a
    refine ⟨some ⟨b, o, spot⟩, len, m, b, o, Z, rfl, by omega, (fun e => by cases e), fun c hc => ?_⟩
    obtain ⟨h0, h1, h2, h3⟩ := hZ c hc
    have hs : spot = none := by have := World.cell?_spot (hZ 0 (by omega)).1; simpa [Addr.add] using this
    subst hs
    rw [add_plain] at h0 h1 h2
    exact ⟨rfl, h0, h1, h2, h3⟩

theorem open_grid {fuel : Nat} {v : Value} {x : DataW H × List MemPlace} (h : DataW.trod enc Try.prog w base (fun _ => true) held fuel 68 [v] = some x) :
    ∃ (ga : Option Addr) (G Gc : Nat) (A : Nat → Option Addr) (L C RB RO : Nat → Nat) (T Hd I : Nat → Nat → Int) (gb go : Nat), v = .slice ga G Gc ∧ GridAt w ga G A L C RB RO T Hd I gb go := by
  rcases open_slice1 Try.underlying68 Try.cells80 h with ⟨hcs, _⟩ | ⟨a, len, cap, m, k, V, D, Pl, hcs, _, hl, hm, hmm, _, hx⟩
  · simp at hcs
    subst hcs
    exact ⟨none, 0, 0, fun _ => none, fun _ => 0, fun _ => 0, fun _ => 0, fun _ => 0, fun _ _ => 0, fun _ _ => 0, fun _ _ => 0, 0, 0, rfl,
      ⟨fun h => absurd h (Nat.not_lt_zero _), fun r h => absurd h (Nat.not_lt_zero _), fun r h => absurd h (Nat.not_lt_zero _), fun r h => absurd h (Nat.not_lt_zero _), fun r h => absurd h (Nat.not_lt_zero _), fun r h => absurd h (Nat.not_lt_zero _), fun r h => absurd h (Nat.not_lt_zero _), fun r _ h => absurd h (Nat.not_lt_zero _), fun r h => absurd h (Nat.not_lt_zero _), by omega⟩⟩
  · simp at hcs
    subst hcs
    simp only [if_true] at hmm
    subst hmm
    obtain ⟨y, hy⟩ := choose_lt (n := len) (p := fun r (y : Option Addr × Nat × Nat × Nat × Nat × (Nat → Int × Int × Int)) => V r = .slice y.1 y.2.1 y.2.2.1 ∧ y.2.1 ≤ maxLen ∧ (y.1 = none → y.2.1 = 0) ∧ ∀ c, c < y.2.1 → y.1 = some ⟨y.2.2.2.1, y.2.2.2.2.1, none⟩ ∧ w.cell? ⟨y.2.2.2.1, y.2.2.2.2.1 + c * 3, none⟩ = some (.int .i32 (y.2.2.2.2.2 c).1) ∧
        w.cell? ⟨y.2.2.2.1, y.2.2.2.2.1 + c * 3 + 1, none⟩ = some (.int .i32 (y.2.2.2.2.2 c).2.1) ∧ w.cell? ⟨y.2.2.2.1, y.2.2.2.2.1 + c * 3 + 2, none⟩ = some (.int .i32 (y.2.2.2.2.2 c).2.2) ∧ (Lit.int .i32 (y.2.2.2.2.2 c).1).wf = true)
      (fun r hr => by
        obtain ⟨a', l', c', b', o', Z, h1, h2, h3, h4⟩ := open_arcs (hx r (by omega)).2
        exact ⟨(a', l', c', b', o', Z), h1, h2, h3, h4⟩)
    obtain ⟨b, o, spot⟩ := a
    have hsp : 0 < len → spot = none := fun h0 => by have := World.cell?_spot (hx 0 (by omega)).1; simpa [Addr.add] using this
    refine ⟨some ⟨b, o, spot⟩, len, m, fun r => (y r).1, fun r => (y r).2.1, fun r => (y r).2.2.1, fun r => (y r).2.2.2.1, fun r => (y r).2.2.2.2.1, fun r c => ((y r).2.2.2.2.2 c).1, fun r c => ((y r).2.2.2.2.2 c).2.1, fun r c => ((y r).2.2.2.2.2 c).2.2, b, o, rfl, ?_⟩
    have hmx : maxLen = 9223372036854775807 := rfl
    refine ⟨fun h0 => by rw [hsp h0], fun r hr => ?_, fun r hr => (hy r hr).2.2.1, fun r hr c hc => ((hy r hr).2.2.2 c hc).1, fun r hr c hc => ((hy r hr).2.2.2 c hc).2.1, fun r hr c hc => ((hy r hr).2.2.2 c hc).2.2.1, fun r hr c hc => ((hy r hr).2.2.2 c hc).2.2.2.1,
      fun r c hr hc => ?_, fun r hr => by have := (hy r hr).2.1; omega, by omega⟩
    · have e := (hx r (by omega)).1
      rw [(hy r hr).1] at e
      have hs := hsp (by omega)
      subst hs
      rw [add_plain] at e
      exact e
    · have := bounds_i32 ((hy r hr).2.2.2 c hc).2.2.2.2
      omega

end
end Go.Proofs.Qxb6601390a
