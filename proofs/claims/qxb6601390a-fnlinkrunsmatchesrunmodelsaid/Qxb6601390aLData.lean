/-
  THE LAW ON linkRuns: WHAT THE WALKS ARE TOLD of the versions, the writes and the runs in memory.
-/
import Derived.Test.Qxb6601390aSort
namespace Go.Proofs.Qxb6601390a
open Go.RowKit Plain

/-- The versions, as data. -/
structure Vd where
  n : Nat
  wr : Nat → Int
  it : Nat → Int
  nx : Nat → Int
  rl : Nat → Nat
  r : Nat → Nat → Int
/-- .. and where they lie. -/
structure Vm where
  a : Option Addr
  b : Nat
  o : Nat
  ra : Nat → Option Addr
  rc : Nat → Nat
  rb : Nat → Nat
  ro : Nat → Nat

/-- An int32's bounds. -/
def I32 (x : Int) : Prop := -2147483648 ≤ x ∧ x ≤ 2147483647

structure VersAt (w : World) (d : Vd) (m : Vm) : Prop where
  addr : 0 < d.n → m.a = some ⟨m.b, m.o, none⟩
  cw : ∀ i, i < d.n → w.cell? ⟨m.b, m.o + i * 4, none⟩ = some (.int .i32 (d.wr i))
  ci : ∀ i, i < d.n → w.cell? ⟨m.b, m.o + i * 4 + 1, none⟩ = some (.int .i32 (d.it i))
  cr : ∀ i, i < d.n → w.cell? ⟨m.b, m.o + i * 4 + 2, none⟩ = some (.slice (m.ra i) (d.rl i) (m.rc i))
  cn : ∀ i, i < d.n → w.cell? ⟨m.b, m.o + i * 4 + 3, none⟩ = some (.int .i32 (d.nx i))
  ra : ∀ i, i < d.n → ∀ k, k < d.rl i → m.ra i = some ⟨m.rb i, m.ro i, none⟩
  rr : ∀ i, i < d.n → ∀ k, k < d.rl i → w.cell? ⟨m.rb i, m.ro i + k, none⟩ = some (.int .i32 (d.r i k))
  bw : ∀ i, i < d.n → I32 (d.wr i)
  bi : ∀ i, i < d.n → I32 (d.it i)
  bn : ∀ i, i < d.n → I32 (d.nx i)
  br : ∀ i, i < d.n → ∀ k, k < d.rl i → I32 (d.r i k)
  bl : ∀ i, i < d.n → d.rl i ≤ 9223372036854775807
  bN : d.n ≤ 9223372036854775807

/-- The writes, as data; where they lie. -/
structure Wd where
  n : Nat
  l : Nat → Nat
  v : Nat → Nat → Int
  f : Nat → Nat → Bool
structure Wm where
  a : Option Addr
  b : Nat
  o : Nat
  ra : Nat → Option Addr
  rc : Nat → Nat
  rb : Nat → Nat
  ro : Nat → Nat
structure WritesAt (w : World) (d : Wd) (m : Wm) : Prop where
  addr : 0 < d.n → m.a = some ⟨m.b, m.o, none⟩
  row : ∀ t, t < d.n → w.cell? ⟨m.b, m.o + t, none⟩ = some (.slice (m.ra t) (d.l t) (m.rc t))
  nil : ∀ t, t < d.n → m.ra t = none → d.l t = 0
  ra : ∀ t, t < d.n → ∀ j, j < d.l t → m.ra t = some ⟨m.rb t, m.ro t, none⟩
  cv : ∀ t, t < d.n → ∀ j, j < d.l t → w.cell? ⟨m.rb t, m.ro t + j * 2, none⟩ = some (.int .i32 (d.v t j))
  cf : ∀ t, t < d.n → ∀ j, j < d.l t → w.cell? ⟨m.rb t, m.ro t + j * 2 + 1, none⟩ = some (.bool (d.f t j))
  bv : ∀ t, t < d.n → ∀ j, j < d.l t → I32 (d.v t j)
  bl : ∀ t, t < d.n → d.l t ≤ 9223372036854775807
  bN : d.n ≤ 9223372036854775807

/-- The runs, as data; where they lie. -/
structure Rd where
  n : Nat
  it : Nat → Int
  fi : Nat → Int
  la : Nat → Int
  sl : Nat → Nat
  s : Nat → Nat → Int
structure Rm where
  a : Option Addr
  b : Nat
  o : Nat
  ra : Nat → Option Addr
  rc : Nat → Nat
  rb : Nat → Nat
  ro : Nat → Nat
structure RunsAt (w : World) (d : Rd) (m : Rm) : Prop where
  addr : 0 < d.n → m.a = some ⟨m.b, m.o, none⟩
  ci : ∀ i, i < d.n → w.cell? ⟨m.b, m.o + i * 4, none⟩ = some (.int .i32 (d.it i))
  cf : ∀ i, i < d.n → w.cell? ⟨m.b, m.o + i * 4 + 1, none⟩ = some (.int .i32 (d.fi i))
  cl : ∀ i, i < d.n → w.cell? ⟨m.b, m.o + i * 4 + 2, none⟩ = some (.int .i32 (d.la i))
  cs : ∀ i, i < d.n → w.cell? ⟨m.b, m.o + i * 4 + 3, none⟩ = some (.slice (m.ra i) (d.sl i) (m.rc i))
  ra : ∀ i, i < d.n → ∀ k, k < d.sl i → m.ra i = some ⟨m.rb i, m.ro i, none⟩
  rr : ∀ i, i < d.n → ∀ k, k < d.sl i → w.cell? ⟨m.rb i, m.ro i + k, none⟩ = some (.int .i32 (d.s i k))
  bl : ∀ i, i < d.n → d.sl i ≤ 9223372036854775807
  bN : d.n ≤ 9223372036854775807

/-- A chain of calls, each of which turns nothing that was there. -/
theorem sinceC {w a b : World} (h : w.Since w.heap.size a) (k : a.Since a.heap.size b) : w.Since w.heap.size b :=
  h.trans ⟨k.os, k.tape, k.output, k.size, fun i hi => k.block i (Nat.lt_of_lt_of_le hi h.size)⟩
theorem rowLater {w w' : World} {b : Nat} {t : TypeId} {n : Nat} {f : Nat → Value} (h : w.rowIs b t n f) {B : Nat} (s : w.Since B w') (hB : w.heap.size ≤ B) : w'.rowIs b t n f :=
  h.of_block (s.block _ (Nat.lt_of_lt_of_le h.lt hB))
theorem cell_later {w w' : World} {B : Nat} (s : w.Since B w') (hB : w.heap.size ≤ B) {a : Addr} {v : Value} (e : w.cell? a = some v) : w'.cell? a = some v := by
  rw [s.cell (Nat.lt_of_lt_of_le (World.block_lt_of_cell? _ _ e) hB)]; exact e
theorem VersAt.later {w w' : World} {d : Vd} {m : Vm} (h : VersAt w d m) {B : Nat} (s : w.Since B w') (hB : w.heap.size ≤ B) : VersAt w' d m :=
  ⟨h.addr, fun i hi => cell_later s hB (h.cw i hi), fun i hi => cell_later s hB (h.ci i hi), fun i hi => cell_later s hB (h.cr i hi), fun i hi => cell_later s hB (h.cn i hi), h.ra, fun i hi k hk => cell_later s hB (h.rr i hi k hk), h.bw, h.bi, h.bn, h.br, h.bl, h.bN⟩
theorem WritesAt.later {w w' : World} {d : Wd} {m : Wm} (h : WritesAt w d m) {B : Nat} (s : w.Since B w') (hB : w.heap.size ≤ B) : WritesAt w' d m :=
  ⟨h.addr, fun t ht => cell_later s hB (h.row t ht), h.nil, h.ra, fun t ht j hj => cell_later s hB (h.cv t ht j hj), fun t ht j hj => cell_later s hB (h.cf t ht j hj), h.bv, h.bl, h.bN⟩
theorem RunsAt.later {w w' : World} {d : Rd} {m : Rm} (h : RunsAt w d m) {B : Nat} (s : w.Since B w') (hB : w.heap.size ≤ B) : RunsAt w' d m :=
  ⟨h.addr, fun i hi => cell_later s hB (h.ci i hi), fun i hi => cell_later s hB (h.cf i hi), fun i hi => cell_later s hB (h.cl i hi), fun i hi => cell_later s hB (h.cs i hi), h.ra, fun i hi k hk => cell_later s hB (h.rr i hi k hk), h.bl, h.bN⟩

end Go.Proofs.Qxb6601390a
