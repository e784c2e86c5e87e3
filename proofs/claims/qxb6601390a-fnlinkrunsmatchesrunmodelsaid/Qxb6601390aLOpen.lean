/-
  THE ARGUMENTS OF THE LAW ON linkRuns, opened: '[]VersionB1', '[][]WriteB1', '[]RunB1'.
-/
import Derived.Test.Qxb6601390aLData
import Derived.Test.Qxb6601390aOpen
import Derived.Lib.SmallJoins
namespace Go.Proofs.Qxb6601390a
open Go.ChangeShapes Go.WideShapes Go.ChangeAt Go.RowKit Go.Deep
set_option linter.unusedVariables false

theorem Try.cells4 : Try.prog.cellsOf 4 = 1 := by kernel_rfl
theorem Try.cells28 : Try.prog.cellsOf 28 = 1 := by kernel_rfl
theorem Try.cells84 : Try.prog.cellsOf 84 = 1 := by kernel_rfl
theorem Try.cells49 : Try.prog.cellsOf 49 = 4 := by kernel_rfl
theorem Try.cells58 : Try.prog.cellsOf 58 = 4 := by kernel_rfl
theorem Try.cells86 : Try.prog.cellsOf 86 = 2 := by kernel_rfl

theorem len_four {α : Type} (l : List α) (h : l.length = 4) : ∃ a b c d, l = [a, b, c, d] := by
  match l, h with
  | [a, b, c, d], _ => exact ⟨a, b, c, d, rfl⟩
theorem len_two {α : Type} (l : List α) (h : l.length = 2) : ∃ a b, l = [a, b] := by
  match l, h with
  | [a, b], _ => exact ⟨a, b, rfl⟩

section
variable {H : Type} {enc : TypeId × Value → H} {w : World} {base : Nat} {held : Bool}

/-- A '[]int32'. -/
def Row32 (w : World) (v : Value) (a : Option Addr) (len cap b o : Nat) (X : Nat → Int) : Prop :=
  v = .slice a len cap ∧ len ≤ maxLen ∧ ∀ c, c < len → a = some ⟨b, o, none⟩ ∧ w.cell? ⟨b, o + c, none⟩ = some (.int .i32 (X c)) ∧ I32 (X c)

theorem open_row32 {n : Nat} {v : Value} {x : DataW H × List MemPlace} (h : DataW.trod enc Try.prog w base (fun _ => true) held n 28 [v] = some x) :
    ∃ (a : Option Addr) (len cap b o : Nat) (X : Nat → Int), Row32 w v a len cap b o X := by
  rcases open_slice1 Try.underlying28 Try.cells21 h with ⟨hcs, _⟩ | ⟨a, len, cap, m, k, V, D, Pl, hcs, _, hl, hm, hmm, _, hx⟩
  · simp at hcs
    subst hcs
    exact ⟨none, 0, 0, 0, 0, fun _ => 0, rfl, Nat.zero_le _, fun c hc => absurd hc (Nat.not_lt_zero _)⟩
  · simp at hcs
    subst hcs
    simp only [if_true] at hmm
    subst hmm
    obtain ⟨Z, hZ⟩ := choose_lt (n := len) (p := fun i (q : Int) => w.cell? (a.add i) = some (.int .i32 q) ∧ I32 q)
      (fun i hi => by
        obtain ⟨h1, h2⟩ := hx i (by omega)
        obtain ⟨t, e0, _, wt⟩ := DataW.trod_int Try.underlying21 h2
        simp at e0
        exact ⟨t, by rw [h1, e0], bounds_i32 wt⟩)
    obtain ⟨b, o, spot⟩ := a
    refine ⟨some ⟨b, o, spot⟩, len, m, b, o, Z, rfl, by omega, fun c hc => ?_⟩
    obtain ⟨h0, h1⟩ := hZ c hc
    have hs : spot = none := by have := World.cell?_spot (hZ 0 (by omega)).1; simpa [Addr.add] using this
    subst hs
    rw [add_plain] at h0
    exact ⟨rfl, h0, h1⟩

abbrev Tup : Type := Int × Int × Int × Option Addr × Nat × Nat × Nat × Nat × (Nat → Int)

/-- One version. -/
theorem open_ver {n : Nat} {a : Addr} {i : Nat} {cs : List Value} {x : DataW H × List MemPlace} (hc : w.cells? base (a.add (i * 4)) 4 = some cs) (h : DataW.trod enc Try.prog w base (fun _ => true) held n 49 cs = some x) :
    ∃ q : Tup, w.cell? (a.add (i * 4)) = some (.int .i32 q.1) ∧ w.cell? (a.add (i * 4 + 1)) = some (.int .i32 q.2.1) ∧ (∃ S, w.cell? (a.add (i * 4 + 2)) = some S ∧ Row32 w S q.2.2.2.1 q.2.2.2.2.1 q.2.2.2.2.2.1 q.2.2.2.2.2.2.1 q.2.2.2.2.2.2.2.1 q.2.2.2.2.2.2.2.2) ∧ w.cell? (a.add (i * 4 + 3)) = some (.int .i32 q.2.2.1) ∧ I32 q.1 ∧ I32 q.2.1 ∧ I32 q.2.2.1 := by
  obtain ⟨_, hlen, hcell⟩ := World.cells?_some hc
  obtain ⟨y0, y1, y2, y3, m, _, _, g0, g1, g2, g3⟩ := Go.Joins.trod_struct4 Try.underlying49 h
  obtain ⟨v0, v1, v2, v3, rfl⟩ := len_four cs hlen
  obtain ⟨t0, e0, _, w0⟩ := DataW.trod_int Try.underlying21 g0
  obtain ⟨t1, e1, _, w1⟩ := DataW.trod_int Try.underlying21 g1
  obtain ⟨t3, e3, _, w3⟩ := DataW.trod_int Try.underlying21 g3
  simp [Try.cells21] at e0 e1 e3
  subst e0 e1 e3
  simp [Try.cells28] at g2
  obtain ⟨a', l', c', b', o', X, hr⟩ := open_row32 g2
  have c0 := hcell 0 (by omega)
  have c1 := hcell 1 (by omega)
  have c2 := hcell 2 (by omega)
  have c3 := hcell 3 (by omega)
  rw [Go.Deep.add_add] at c0 c1 c2 c3
  exact ⟨(t0, t1, t3, a', l', c', b', o', X), by simpa using c0, by simpa using c1, ⟨v2, by simpa using c2, hr⟩, by simpa using c3, bounds_i32 w0, bounds_i32 w1, bounds_i32 w3⟩

/-- One run. -/
theorem open_run {n : Nat} {a : Addr} {i : Nat} {cs : List Value} {x : DataW H × List MemPlace} (hc : w.cells? base (a.add (i * 4)) 4 = some cs) (h : DataW.trod enc Try.prog w base (fun _ => true) held n 58 cs = some x) :
    ∃ q : Tup, w.cell? (a.add (i * 4)) = some (.int .i32 q.1) ∧ w.cell? (a.add (i * 4 + 1)) = some (.int .i32 q.2.1) ∧ w.cell? (a.add (i * 4 + 2)) = some (.int .i32 q.2.2.1) ∧ (∃ S, w.cell? (a.add (i * 4 + 3)) = some S ∧ Row32 w S q.2.2.2.1 q.2.2.2.2.1 q.2.2.2.2.2.1 q.2.2.2.2.2.2.1 q.2.2.2.2.2.2.2.1 q.2.2.2.2.2.2.2.2) := by
  obtain ⟨_, hlen, hcell⟩ := World.cells?_some hc
  obtain ⟨y0, y1, y2, y3, m, _, _, g0, g1, g2, g3⟩ := Go.Joins.trod_struct4 Try.underlying58 h
  obtain ⟨v0, v1, v2, v3, rfl⟩ := len_four cs hlen
  obtain ⟨t0, e0, _, w0⟩ := DataW.trod_int Try.underlying21 g0
  obtain ⟨t1, e1, _, w1⟩ := DataW.trod_int Try.underlying21 g1
  obtain ⟨t2, e2, _, w2⟩ := DataW.trod_int Try.underlying21 g2
  simp [Try.cells21] at e0 e1 e2
  subst e0 e1 e2
  simp [Try.cells28] at g3
  obtain ⟨a', l', c', b', o', X, hr⟩ := open_row32 g3
  have c0 := hcell 0 (by omega)
  have c1 := hcell 1 (by omega)
  have c2 := hcell 2 (by omega)
  have c3 := hcell 3 (by omega)
  rw [Go.Deep.add_add] at c0 c1 c2 c3
  exact ⟨(t0, t1, t2, a', l', c', b', o', X), by simpa using c0, by simpa using c1, by simpa using c2, ⟨v3, by simpa using c3, hr⟩⟩

/-- One write. -/
theorem open_write {n : Nat} {a : Addr} {i : Nat} {cs : List Value} {x : DataW H × List MemPlace} (hc : w.cells? base (a.add (i * 2)) 2 = some cs) (h : DataW.trod enc Try.prog w base (fun _ => true) held n 86 cs = some x) :
    ∃ q : Int × Bool, w.cell? (a.add (i * 2)) = some (.int .i32 q.1) ∧ w.cell? (a.add (i * 2 + 1)) = some (.bool q.2) ∧ I32 q.1 := by
  obtain ⟨_, hlen, hcell⟩ := World.cells?_some hc
  obtain ⟨y0, y1, m, _, _, g0, g1⟩ := trod_struct2 Try.underlying86 h
  obtain ⟨v0, v1, rfl⟩ := len_two cs hlen
  obtain ⟨t0, e0, _, w0⟩ := DataW.trod_int Try.underlying21 g0
  obtain ⟨t1, e1, _⟩ := DataW.trod_bool Try.underlying4 g1
  simp [Try.cells21, Try.cells4] at e0 e1
  subst e0 e1
  have c0 := hcell 0 (by omega)
  have c1 := hcell 1 (by omega)
  rw [Go.Deep.add_add] at c0 c1
  exact ⟨(t0, t1), by simpa using c0, by simpa using c1, bounds_i32 w0⟩

theorem open_vers {fuel : Nat} {v : Value} {x : DataW H × List MemPlace} (h : DataW.trod enc Try.prog w base (fun _ => true) held fuel 22 [v] = some x) :
    ∃ (d : Vd) (m : Vm) (c : Nat), v = .slice m.a d.n c ∧ VersAt w d m := by
  rcases open_slice Try.underlying22 h with ⟨hcs, _⟩ | ⟨a, len, cap, m, k, D, Pl, hcs, _, hl, hm, hmm, _, hx⟩
  · simp at hcs
    subst hcs
    have nn : ∀ {P : Prop} {i : Nat}, i < 0 → P := fun h => absurd h (Nat.not_lt_zero _)
    exact ⟨⟨0, fun _ => 0, fun _ => 0, fun _ => 0, fun _ => 0, fun _ _ => 0⟩, ⟨none, 0, 0, fun _ => none, fun _ => 0, fun _ => 0, fun _ => 0⟩, 0, rfl,
      ⟨fun h => nn h, fun _ h => nn h, fun _ h => nn h, fun _ h => nn h, fun _ h => nn h, fun _ h => nn h, fun _ h => nn h, fun _ h => nn h, fun _ h => nn h, fun _ h => nn h, fun _ h => nn h, fun _ h => nn h, by show 0 ≤ _; omega⟩⟩
  · simp at hcs
    subst hcs
    simp only [if_true] at hmm
    subst hmm
    rw [Try.cells49] at hx
    obtain ⟨Z, hZ⟩ := choose_lt (n := len) (p := fun i (q : Tup) => w.cell? (a.add (i * 4)) = some (.int .i32 q.1) ∧ w.cell? (a.add (i * 4 + 1)) = some (.int .i32 q.2.1) ∧ (∃ S, w.cell? (a.add (i * 4 + 2)) = some S ∧ Row32 w S q.2.2.2.1 q.2.2.2.2.1 q.2.2.2.2.2.1 q.2.2.2.2.2.2.1 q.2.2.2.2.2.2.2.1 q.2.2.2.2.2.2.2.2) ∧ w.cell? (a.add (i * 4 + 3)) = some (.int .i32 q.2.2.1) ∧ I32 q.1 ∧ I32 q.2.1 ∧ I32 q.2.2.1)
      (fun i hi => by obtain ⟨cs', h1, h2⟩ := hx i (by omega); exact open_ver h1 h2)
    obtain ⟨b, o, spot⟩ := a
    have hsp : 0 < len → spot = none := fun h0 => by have := World.cell?_spot (hZ 0 h0).1; simpa [Addr.add] using this
    have hmx : maxLen = 9223372036854775807 := rfl
    refine ⟨⟨len, fun i => (Z i).1, fun i => (Z i).2.1, fun i => (Z i).2.2.1, fun i => (Z i).2.2.2.2.1, fun i => (Z i).2.2.2.2.2.2.2.2⟩, ⟨some ⟨b, o, spot⟩, b, o, fun i => (Z i).2.2.2.1, fun i => (Z i).2.2.2.2.2.1, fun i => (Z i).2.2.2.2.2.2.1, fun i => (Z i).2.2.2.2.2.2.2.1⟩, m, rfl, ?_⟩
    have hall : ∀ i, i < len → w.cell? ⟨b, o + i * 4, none⟩ = some (.int .i32 (Z i).1) ∧ w.cell? ⟨b, o + i * 4 + 1, none⟩ = some (.int .i32 (Z i).2.1) ∧ (∃ S, w.cell? ⟨b, o + i * 4 + 2, none⟩ = some S ∧ Row32 w S (Z i).2.2.2.1 (Z i).2.2.2.2.1 (Z i).2.2.2.2.2.1 (Z i).2.2.2.2.2.2.1 (Z i).2.2.2.2.2.2.2.1 (Z i).2.2.2.2.2.2.2.2) ∧ w.cell? ⟨b, o + i * 4 + 3, none⟩ = some (.int .i32 (Z i).2.2.1) ∧ I32 (Z i).1 ∧ I32 (Z i).2.1 ∧ I32 (Z i).2.2.1 := fun i hi => by
      have := hZ i hi
      have hs := hsp (by omega)
      subst hs
      simpa only [add_plain, Nat.add_assoc] using this
    refine ⟨fun h0 => by rw [hsp h0], fun i hi => (hall i hi).1, fun i hi => (hall i hi).2.1, fun i hi => ?_, fun i hi => (hall i hi).2.2.2.1, fun i hi k hk => ?_, fun i hi k hk => ?_, fun i hi => (hall i hi).2.2.2.2.1, fun i hi => (hall i hi).2.2.2.2.2.1, fun i hi => (hall i hi).2.2.2.2.2.2, fun i hi k hk => ?_, fun i hi => ?_, by show len ≤ _; omega⟩
    · obtain ⟨S, h1, h2, _⟩ := (hall i hi).2.2.1
      rw [h2] at h1; exact h1
    · obtain ⟨S, _, _, _, h3⟩ := (hall i hi).2.2.1
      exact (h3 k hk).1
    · obtain ⟨S, _, _, _, h3⟩ := (hall i hi).2.2.1
      exact (h3 k hk).2.1
    · obtain ⟨S, _, _, _, h3⟩ := (hall i hi).2.2.1
      exact (h3 k hk).2.2
    · obtain ⟨S, _, _, h3, _⟩ := (hall i hi).2.2.1
      show (Z i).2.2.2.2.1 ≤ _
      omega

theorem open_runs {fuel : Nat} {v : Value} {x : DataW H × List MemPlace} (h : DataW.trod enc Try.prog w base (fun _ => true) held fuel 24 [v] = some x) :
    ∃ (d : Rd) (m : Rm) (c : Nat), v = .slice m.a d.n c ∧ RunsAt w d m := by
  rcases open_slice Try.underlying24 h with ⟨hcs, _⟩ | ⟨a, len, cap, m, k, D, Pl, hcs, _, hl, hm, hmm, _, hx⟩
  · simp at hcs
    subst hcs
    have nn : ∀ {P : Prop} {i : Nat}, i < 0 → P := fun h => absurd h (Nat.not_lt_zero _)
    exact ⟨⟨0, fun _ => 0, fun _ => 0, fun _ => 0, fun _ => 0, fun _ _ => 0⟩, ⟨none, 0, 0, fun _ => none, fun _ => 0, fun _ => 0, fun _ => 0⟩, 0, rfl,
      ⟨fun h => nn h, fun _ h => nn h, fun _ h => nn h, fun _ h => nn h, fun _ h => nn h, fun _ h => nn h, fun _ h => nn h, fun _ h => nn h, by show 0 ≤ _; omega⟩⟩
  · simp at hcs
    subst hcs
    simp only [if_true] at hmm
    subst hmm
    rw [Try.cells58] at hx
    obtain ⟨Z, hZ⟩ := choose_lt (n := len) (p := fun i (q : Tup) => w.cell? (a.add (i * 4)) = some (.int .i32 q.1) ∧ w.cell? (a.add (i * 4 + 1)) = some (.int .i32 q.2.1) ∧ w.cell? (a.add (i * 4 + 2)) = some (.int .i32 q.2.2.1) ∧ (∃ S, w.cell? (a.add (i * 4 + 3)) = some S ∧ Row32 w S q.2.2.2.1 q.2.2.2.2.1 q.2.2.2.2.2.1 q.2.2.2.2.2.2.1 q.2.2.2.2.2.2.2.1 q.2.2.2.2.2.2.2.2))
      (fun i hi => by obtain ⟨cs', h1, h2⟩ := hx i (by omega); exact open_run h1 h2)
    obtain ⟨b, o, spot⟩ := a
    have hsp : 0 < len → spot = none := fun h0 => by have := World.cell?_spot (hZ 0 h0).1; simpa [Addr.add] using this
    have hmx : maxLen = 9223372036854775807 := rfl
    refine ⟨⟨len, fun i => (Z i).1, fun i => (Z i).2.1, fun i => (Z i).2.2.1, fun i => (Z i).2.2.2.2.1, fun i => (Z i).2.2.2.2.2.2.2.2⟩, ⟨some ⟨b, o, spot⟩, b, o, fun i => (Z i).2.2.2.1, fun i => (Z i).2.2.2.2.2.1, fun i => (Z i).2.2.2.2.2.2.1, fun i => (Z i).2.2.2.2.2.2.2.1⟩, m, rfl, ?_⟩
    have hall : ∀ i, i < len → w.cell? ⟨b, o + i * 4, none⟩ = some (.int .i32 (Z i).1) ∧ w.cell? ⟨b, o + i * 4 + 1, none⟩ = some (.int .i32 (Z i).2.1) ∧ w.cell? ⟨b, o + i * 4 + 2, none⟩ = some (.int .i32 (Z i).2.2.1) ∧ (∃ S, w.cell? ⟨b, o + i * 4 + 3, none⟩ = some S ∧ Row32 w S (Z i).2.2.2.1 (Z i).2.2.2.2.1 (Z i).2.2.2.2.2.1 (Z i).2.2.2.2.2.2.1 (Z i).2.2.2.2.2.2.2.1 (Z i).2.2.2.2.2.2.2.2) := fun i hi => by
      have := hZ i hi
      have hs := hsp (by omega)
      subst hs
      simpa only [add_plain, Nat.add_assoc] using this
    refine ⟨fun h0 => by rw [hsp h0], fun i hi => (hall i hi).1, fun i hi => (hall i hi).2.1, fun i hi => (hall i hi).2.2.1, fun i hi => ?_, fun i hi k hk => ?_, fun i hi k hk => ?_, fun i hi => ?_, by show len ≤ _; omega⟩
    · obtain ⟨S, h1, h2, _⟩ := (hall i hi).2.2.2
      rw [h2] at h1; exact h1
    · obtain ⟨S, _, _, _, h3⟩ := (hall i hi).2.2.2
      exact (h3 k hk).1
    · obtain ⟨S, _, _, _, h3⟩ := (hall i hi).2.2.2
      exact (h3 k hk).2.1
    · obtain ⟨S, _, _, h3, _⟩ := (hall i hi).2.2.2
      show (Z i).2.2.2.2.1 ≤ _
      omega

/-- One row of writes. -/
theorem open_wrow {n : Nat} {v : Value} {x : DataW H × List MemPlace} (h : DataW.trod enc Try.prog w base (fun _ => true) held n 84 [v] = some x) :
    ∃ (a : Option Addr) (len cap b o : Nat) (Z : Nat → Int × Bool), v = .slice a len cap ∧ len ≤ maxLen ∧ (a = none → len = 0) ∧ ∀ c, c < len → a = some ⟨b, o, none⟩ ∧ w.cell? ⟨b, o + c * 2, none⟩ = some (.int .i32 (Z c).1) ∧ w.cell? ⟨b, o + c * 2 + 1, none⟩ = some (.bool (Z c).2) ∧ I32 (Z c).1 := by
  rcases open_slice Try.underlying84 h with ⟨hcs, _⟩ | ⟨a, len, cap, m, k, D, Pl, hcs, _, hl, hm, hmm, _, hx⟩
  · simp at hcs
    subst hcs
    exact ⟨none, 0, 0, 0, 0, fun _ => (0, false), rfl, Nat.zero_le _, fun _ => rfl, fun c hc => absurd hc (Nat.not_lt_zero _)⟩
  · simp at hcs
    subst hcs
    simp only [if_true] at hmm
    subst hmm
    rw [Try.cells86] at hx
    obtain ⟨Z, hZ⟩ := choose_lt (n := len) (p := fun i (q : Int × Bool) => w.cell? (a.add (i * 2)) = some (.int .i32 q.1) ∧ w.cell? (a.add (i * 2 + 1)) = some (.bool q.2) ∧ I32 q.1)
      (fun i hi => by obtain ⟨cs', h1, h2⟩ := hx i (by omega); exact open_write h1 h2)
    obtain ⟨b, o, spot⟩ := a
    refine ⟨some ⟨b, o, spot⟩, len, m, b, o, Z, rfl, by omega, (fun e => by cases e), fun c hc => ?_⟩
    obtain ⟨h0, h1, h2⟩ := hZ c hc
    have hs : spot = none := by have := World.cell?_spot (hZ 0 (by omega)).1; simpa [Addr.add] using this
    subst hs
    rw [add_plain] at h0 h1
    exact ⟨rfl, h0, h1, h2⟩

theorem open_writes {fuel : Nat} {v : Value} {x : DataW H × List MemPlace} (h : DataW.trod enc Try.prog w base (fun _ => true) held fuel 23 [v] = some x) :
    ∃ (d : Wd) (m : Wm) (c : Nat), v = .slice m.a d.n c ∧ WritesAt w d m := by
  rcases open_slice1 Try.underlying23 Try.cells84 h with ⟨hcs, _⟩ | ⟨a, len, cap, m, k, V, D, Pl, hcs, _, hl, hm, hmm, _, hx⟩
  · simp at hcs
    subst hcs
    have nn : ∀ {P : Prop} {i : Nat}, i < 0 → P := fun h => absurd h (Nat.not_lt_zero _)
    exact ⟨⟨0, fun _ => 0, fun _ _ => 0, fun _ _ => false⟩, ⟨none, 0, 0, fun _ => none, fun _ => 0, fun _ => 0, fun _ => 0⟩, 0, rfl,
      ⟨fun h => nn h, fun _ h => nn h, fun _ h => nn h, fun _ h => nn h, fun _ h => nn h, fun _ h => nn h, fun _ h => nn h, fun _ h => nn h, by show 0 ≤ _; omega⟩⟩
  · simp at hcs
    subst hcs
    simp only [if_true] at hmm
    subst hmm
    obtain ⟨y, hy⟩ := choose_lt (n := len) (p := fun r (y : Option Addr × Nat × Nat × Nat × Nat × (Nat → Int × Bool)) => V r = .slice y.1 y.2.1 y.2.2.1 ∧ y.2.1 ≤ maxLen ∧ (y.1 = none → y.2.1 = 0) ∧ ∀ c, c < y.2.1 → y.1 = some ⟨y.2.2.2.1, y.2.2.2.2.1, none⟩ ∧ w.cell? ⟨y.2.2.2.1, y.2.2.2.2.1 + c * 2, none⟩ = some (.int .i32 (y.2.2.2.2.2 c).1) ∧ w.cell? ⟨y.2.2.2.1, y.2.2.2.2.1 + c * 2 + 1, none⟩ = some (.bool (y.2.2.2.2.2 c).2) ∧ I32 (y.2.2.2.2.2 c).1)
      (fun r hr => by
        obtain ⟨a', l', c', b', o', Z, h1, h2, h3, h4⟩ := open_wrow (hx r (by omega)).2
        exact ⟨(a', l', c', b', o', Z), h1, h2, h3, h4⟩)
    obtain ⟨b, o, spot⟩ := a
    have hsp : 0 < len → spot = none := fun h0 => by have := World.cell?_spot (hx 0 (by omega)).1; simpa [Addr.add] using this
    have hmx : maxLen = 9223372036854775807 := rfl
    refine ⟨⟨len, fun t => (y t).2.1, fun t j => ((y t).2.2.2.2.2 j).1, fun t j => ((y t).2.2.2.2.2 j).2⟩, ⟨some ⟨b, o, spot⟩, b, o, fun t => (y t).1, fun t => (y t).2.2.1, fun t => (y t).2.2.2.1, fun t => (y t).2.2.2.2.1⟩, m, rfl, ?_⟩
    refine ⟨fun h0 => by rw [hsp h0], fun t ht => ?_, fun t ht => (hy t ht).2.2.1, fun t ht j hj => ((hy t ht).2.2.2 j hj).1, fun t ht j hj => ((hy t ht).2.2.2 j hj).2.1, fun t ht j hj => ((hy t ht).2.2.2 j hj).2.2.1, fun t ht j hj => ((hy t ht).2.2.2 j hj).2.2.2, fun t ht => ?_, by show len ≤ _; omega⟩
    · have e := (hx t (by have : t < len := ht; omega)).1
      rw [(hy t ht).1] at e
      have hs := hsp (by have : t < len := ht; omega)
      subst hs
      rw [add_plain] at e
      exact e
    · have := (hy t ht).2.1
      show (y t).2.1 ≤ _
      omega

end
end Go.Proofs.Qxb6601390a
