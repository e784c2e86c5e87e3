/-
  linkRuns: THE RUNS' LOOP: what it keeps, what a round does to it.
-/
import Derived.Test.Qxb6601390aLKeep
namespace Go.Proofs.Qxb6601390a
open Go.RowKit Plain
set_option linter.unusedVariables false

def vCols (d : Vd) (ra : Nat → Option Addr) (rc : Nat → Nat) (N : Nat → Int) : Nat → Value := quad (fun i => .int .i32 (d.wr i)) (fun i => .int .i32 (d.it i)) (fun i => .slice (ra i) (d.rl i) (rc i)) (fun i => .int .i32 (N i))

/-- The versions below i to which no link leads. -/
def unl (N : Nat → Int) (n i : Nat) : List Nat := (List.range i).filter fun j => !ledTo N n j
theorem unl_led {N : Nat → Int} {n i : Nat} (h : ledTo N n i = true) : unl N n (i + 1) = unl N n i := by simp [unl, List.range_succ, h]
theorem unl_free {N : Nat → Int} {n i : Nat} (h : ledTo N n i = false) : unl N n (i + 1) = unl N n i ++ [i] := by simp [unl, List.range_succ, h]
theorem unl_length (N : Nat → Int) (n i : Nat) : (unl N n i).length ≤ i := by
  have := List.length_filter_le (fun j => !ledTo N n j) (List.range i)
  simpa [unl] using this
theorem unl_mem {N : Nat → Int} {n i x : Nat} (h : x ∈ unl N n i) : x < i ∧ ledTo N n x = false := by
  simp [unl] at h; exact h

/-- A run's sinks: the last version's readers; where it has none and a writer: the writer. -/
def SinkIs (b0 : Nat) (wr : World) (R : Value) (d : Vd) (ra : Nat → Option Addr) (rc : Nat → Nat) (y : Nat) (S : Value) : Prop :=
  (¬ (d.rl y = 0 ∧ 0 ≤ d.wr y) ∧ S = .slice (ra y) (d.rl y) (rc y)) ∨
  (d.rl y = 0 ∧ 0 ≤ d.wr y ∧ ∃ sb, S = .slice (some ⟨sb, 0, none⟩) 1 1 ∧ b0 ≤ sb ∧ R.ownBlock ≠ some sb ∧ wr.cell? ⟨sb, 0, none⟩ = some (.int .i32 (d.wr y)))

/-- The runs l that stand for the versions us. -/
def RunsFor (b0 : Nat) (wr : World) (R : Value) (d : Vd) (ra : Nat → Option Addr) (rc : Nat → Nat) (E : Nat → Nat) (us : List Nat) (l : List (Value × Value × Value × Value)) : Prop :=
  l.length = us.length ∧ ∀ (k : Nat) (x : Nat), us[k]? = some x → ∃ S : Value, l[k]? = some (Value.int .i32 (d.it x), Value.int .i32 (x : Int), Value.int .i32 (E x : Int), S) ∧ SinkIs b0 wr R d ra rc (E x) S

theorem SinkIs.move {b0 : Nat} {wr wr' : World} {R R' : Value} {d : Vd} {ra : Nat → Option Addr} {rc : Nat → Nat} {y : Nat} {S : Value} (h : SinkIs b0 wr R d ra rc y S)
    (hm : ∀ sb v, b0 ≤ sb → R.ownBlock ≠ some sb → wr.cell? ⟨sb, 0, none⟩ = some v → wr'.cell? ⟨sb, 0, none⟩ = some v ∧ R'.ownBlock ≠ some sb) : SinkIs b0 wr' R' d ra rc y S := by
  rcases h with h | ⟨h1, h2, sb, h3, h4, h5, h6⟩
  · exact .inl h
  · obtain ⟨q1, q2⟩ := hm sb _ h4 h5 h6
    exact .inr ⟨h1, h2, sb, h3, h4, q2, q1⟩
theorem RunsFor.move {b0 : Nat} {wr wr' : World} {R R' : Value} {d : Vd} {ra : Nat → Option Addr} {rc : Nat → Nat} {E : Nat → Nat} {us : List Nat} {l : List (Value × Value × Value × Value)} (h : RunsFor b0 wr R d ra rc E us l)
    (hm : ∀ sb v, b0 ≤ sb → R.ownBlock ≠ some sb → wr.cell? ⟨sb, 0, none⟩ = some v → wr'.cell? ⟨sb, 0, none⟩ = some v ∧ R'.ownBlock ≠ some sb) : RunsFor b0 wr' R' d ra rc E us l :=
  ⟨h.1, fun k x hx => by obtain ⟨S, h1, h2⟩ := h.2 k x hx; exact ⟨S, h1, h2.move hm⟩⟩
theorem RunsFor.snoc {b0 : Nat} {wr : World} {R : Value} {d : Vd} {ra : Nat → Option Addr} {rc : Nat → Nat} {E : Nat → Nat} {us : List Nat} {l : List (Value × Value × Value × Value)} (h : RunsFor b0 wr R d ra rc E us l) {x : Nat} {S : Value} (hS : SinkIs b0 wr R d ra rc (E x) S) :
    RunsFor b0 wr R d ra rc E (us ++ [x]) (l ++ [(.int .i32 (d.it x), .int .i32 (x : Int), .int .i32 (E x : Int), S)]) := by
  refine ⟨by simp [h.1], fun k y hy => ?_⟩
  by_cases hk : k < us.length
  · rw [List.getElem?_append_left hk] at hy
    obtain ⟨S', h1, h2⟩ := h.2 k y hy
    exact ⟨S', by rw [List.getElem?_append_left (by rw [h.1]; exact hk)]; exact h1, h2⟩
  · have hk' : k = us.length := by
      have := (List.getElem?_eq_some_iff.1 hy).1
      simp at this; omega
    subst hk'
    simp at hy
    subst hy
    exact ⟨S, by rw [← h.1]; simp, hS⟩

/-- What the runs' loop keeps, i versions done. -/
structure Ph3 (w wr : World) (d : Vd) (N : Nat → Int) (vb pv lb : Nat) (ra : Nat → Option Addr) (rc : Nat → Nat) (z : Nat → Value) (V W I : Value) (E : Nat → Nat) (l0 : List (Value × Value × Value × Value)) (R0 : Value) (i : Nat) (R : Value) (l : List (Value × Value × Value × Value)) : Prop where
  keeps : Keeps (fun k => k = pv ∨ k = vb ∨ R0.ownBlock = some k) w wr
  row : 0 < d.n → wr.rowIs vb 46 (d.n * 4) (vCols d ra rc N)
  vw : wr.rowIs pv 89 12 (vwCell z V R W I)
  led : wr.rowIs lb 4 d.n (fun j => .bool (ledTo N d.n j))
  runs : OwnsR wr 0 R (l0 ++ l)
  far : ∀ k, R.ownBlock = some k → k ≠ pv ∧ (0 < d.n → k ≠ vb) ∧ k ≠ lb ∧ (R0.ownBlock = some k ∨ w.heap.size ≤ k)
  fresh : RunsFor w.heap.size wr R d ra rc E (unl N d.n i) l
  le : l.length ≤ i

section
variable {w wr : World} {d : Vd} {N : Nat → Int} {vb pv lb : Nat} {ra : Nat → Option Addr} {rc : Nat → Nat} {z : Nat → Value} {V W I : Value} {E : Nat → Nat} {l0 : List (Value × Value × Value × Value)} {R0 : Value} {i : Nat} {R : Value} {l : List (Value × Value × Value × Value)}

theorem Ph3.block_lt (h : Ph3 w wr d N vb pv lb ra rc z V W I E l0 R0 i R l) {k : Nat} (hk : R.ownBlock = some k) : k < wr.heap.size := by
  rcases h.runs.2 with ⟨h1, h2⟩ | ⟨g, cap, cur, hv, _, hg, _⟩
  · rw [h1] at hk; simp [Value.ownBlock] at hk
  · rw [hv] at hk
    simp [Value.ownBlock] at hk
    subst hk
    exact (Array.getElem?_eq_some_iff.1 hg).1

theorem Ph3.alloc (h : Ph3 w wr d N vb pv lb ra rc z V W I E l0 R0 i R l) (o : Obj) : Ph3 w (wr.alloc o) d N vb pv lb ra rc z V W I E l0 R0 i R l :=
  ⟨h.keeps.alloc o, fun hn => (h.row hn).alloc o, h.vw.alloc o, h.led.alloc o, h.runs.of_block (fun k hk => Go.Deep.blk_alloc_lt _ _ _ (h.block_lt hk)), h.far,
    h.fresh.move (fun sb v h1 h2 h3 => ⟨by rw [World.cell?_of_block (w := wr) (Go.Deep.blk_alloc_lt _ _ _ (World.block_lt_of_cell? _ _ h3))]; exact h3, h2⟩), h.le⟩
theorem Ph3.drewN (h : Ph3 w wr d N vb pv lb ra rc z V W I E l0 R0 i R l) (n : Nat) : Ph3 w (wr.drewN n) d N vb pv lb ra rc z V W I E l0 R0 i R l :=
  ⟨h.keeps.drewN n, h.row, h.vw, h.led, h.runs, h.far, h.fresh.move (fun _ _ _ h2 h3 => ⟨h3, h2⟩), h.le⟩
theorem Ph3.ver (h : Ph3 w wr d N vb pv lb ra rc z V W I E l0 R0 i R l) {q : Nat} (hq : q < d.n) :
    wr.cell? ⟨vb, q * 4, none⟩ = some (.int .i32 (d.wr q)) ∧ wr.cell? ⟨vb, q * 4 + 1, none⟩ = some (.int .i32 (d.it q)) ∧ wr.cell? ⟨vb, q * 4 + 2, none⟩ = some (.slice (ra q) (d.rl q) (rc q)) ∧ wr.cell? ⟨vb, q * 4 + 3, none⟩ = some (.int .i32 (N q)) :=
  quad_cells (h.row (by omega)) hq
theorem Ph3.skip (h : Ph3 w wr d N vb pv lb ra rc z V W I E l0 R0 i R l) (hl : ledTo N d.n i = true) : Ph3 w wr d N vb pv lb ra rc z V W I E l0 R0 (i + 1) R l :=
  ⟨h.keeps, h.row, h.vw, h.led, h.runs, h.far, by rw [unl_led hl]; exact h.fresh, by have := h.le; omega⟩

/-- A run more. -/
theorem Ph3.push (h : Ph3 w wr d N vb pv lb ra rc z V W I E l0 R0 i R l) (hl : ledTo N d.n i = false) (hpv : pv < w.heap.size) (hvb : 0 < d.n → vb < w.heap.size) (hvp : 0 < d.n → vb ≠ pv) (hlb : lb ≠ pv) {S : Value} (hS : SinkIs w.heap.size wr R d ra rc (E i) S) {w1 : World} {g cap : Nat}
    (own : w1.ownsRow 0 56 4 (.slice (some ⟨g, 0, none⟩) ((l0 ++ l).length + 1) cap) ((l0 ++ l).length + 1) (cells4 (l0 ++ l) ++ [.int .i32 (d.it i), .int .i32 (i : Int), .int .i32 (E i : Int), S])) (gr : wr.grownBy w1 R.ownBlock) (hat : R.ownBlock = some g ∨ g = wr.heap.size) :
    Ph3 w (w1.setCell ⟨pv, 3, none⟩ (.slice (some ⟨g, 0, none⟩) ((l0 ++ l).length + 1) cap)) d N vb pv lb ra rc z V W I E l0 R0 (i + 1) (.slice (some ⟨g, 0, none⟩) ((l0 ++ l).length + 1) cap) (l ++ [(.int .i32 (d.it i), .int .i32 (i : Int), .int .i32 (E i : Int), S)]) := by
  have hpn : R.ownBlock ≠ some pv := fun e => (h.far _ e).1 rfl
  have hsz := h.keeps.size
  have hgp : g ≠ pv := by
    rcases hat with e | e
    · intro k; subst k; exact hpn e
    · omega
  have key : ∀ k, k < wr.heap.size → R.ownBlock ≠ some k → k ≠ pv → (w1.setCell ⟨pv, 3, none⟩ (.slice (some ⟨g, 0, none⟩) ((l0 ++ l).length + 1) cap)).heap[k]? = wr.heap[k]? := fun k hk hn hp => by
    rw [Below.heap_setCell _ _ _ _ (by show k ≠ pv; exact hp)]
    exact gr.block k hk (fun e => hn e.symm)
  have hown : (l0 ++ (l ++ [(Value.int .i32 (d.it i), Value.int .i32 (i : Int), Value.int .i32 (E i : Int), S)])).length = (l0 ++ l).length + 1 := by simp; omega
  refine ⟨?_, fun hn => ?_, ?_, ?_, ?_, ?_, ?_, ?_⟩
  · refine (h.keeps.grown gr (fun k hk => ?_)).setCell (.inl rfl) _
    rcases (h.far k hk).2.2.2 with e | e
    · exact .inl (.inr (.inr e))
    · exact .inr e
  · exact (h.row hn).of_block (key _ (h.row hn).lt (fun e => (h.far _ e).2.1 hn rfl) (hvp hn))
  · refine ((h.vw.of_block (gr.block _ h.vw.lt (fun e => hpn e.symm))).set 3 _).congr (fun q _ => ?_)
    by_cases e : q = 3
    · subst e; simp [vwCell]
    · rw [if_neg e]; simp [vwCell, e]
  · exact h.led.of_block (key _ h.led.lt (fun e => (h.far _ e).2.2.1 rfl) hlb)
  · have : OwnsR w1 0 (.slice (some ⟨g, 0, none⟩) ((l0 ++ l).length + 1) cap) (l0 ++ (l ++ [(Value.int .i32 (d.it i), Value.int .i32 (i : Int), Value.int .i32 (E i : Int), S)])) := by
      show w1.ownsRow 0 56 4 _ _ _
      rw [hown, ← List.append_assoc, cells4_snoc]
      exact own
    refine this.of_block (fun k hk => ?_)
    simp [Value.ownBlock] at hk
    subst hk
    exact Below.heap_setCell _ _ _ _ hgp
  · intro k hk
    simp [Value.ownBlock] at hk
    subst hk
    rcases hat with e | e
    · exact h.far _ e
    · subst e
      have h3 := h.led.lt
      exact ⟨hgp, (fun hn => by have := hvb hn; omega), by omega, .inr hsz⟩
  · rw [unl_free hl]
    refine (h.fresh.snoc hS).move (fun sb v h1 h2 h3 => ?_)
    have hlt := World.block_lt_of_cell? _ _ h3
    refine ⟨?_, ?_⟩
    · rw [World.cell?_of_block (w := wr) (key _ hlt h2 (by show sb ≠ pv; omega))]; exact h3
    · simp only [Value.ownBlock]
      intro e
      have e2 : g = sb := by simpa using e
      subst e2
      rcases hat with e | e
      · exact h2 e
      · have : g < wr.heap.size := hlt
        omega
  · simp; exact h.le
end

end Go.Proofs.Qxb6601390a
