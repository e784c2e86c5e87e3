/-
  linkRuns' law: WHAT STANDS BEHIND THE CALL, gathered.
-/
import Derived.Test.Qxb6601390aLLink
import Derived.Test.Qxb6601390aLGet
import Derived.Test.Qxb6601390aLDom
namespace Go.Proofs.Qxb6601390a
open Go.RowKit Plain
set_option linter.unusedVariables false

/-- What the law's loops read. -/
structure Aft (w : World) (d : Vd) (m : Vm) (g : Rd) (k : Rm) (N : Nat → Int) (E : Nat → Nat) (nb eb lb vb pv : Nat) (ra : Nat → Option Addr) (rc rb : Nat → Nat) (V W I R : Value) (l0 l : List (Value × Value × Value × Value)) (rra : Nat → Option Addr) (rrc rrb : Nat → Nat) (b0 : Nat) : Prop where
  vers : VersAt w d m
  runs : RunsAt w g k
  next : w.rowIs nb 21 d.n (fun j => .int .i32 (N j))
  ends : w.rowIs eb 3 d.n (fun j => .int .i64 (E j : Int))
  led : w.rowIs lb 4 d.n (fun j => .bool (ledTo N d.n j))
  vrow : 0 < d.n → w.rowIs vb 46 (d.n * 4) (vCols d ra rc N)
  rd : ∀ i, i < d.n → IntsAt .i32 w (ra i) (d.rl i) (d.r i) (rb i) 0
  vw : w.rowIs pv 89 12 (vwCell zV V R W I)
  own : OwnsR w 0 R (l0 ++ l)
  len0 : l0.length = g.n
  l0at : ∀ q, q < g.n → l0[q]? = some (Value.int .i32 (g.it q), Value.int .i32 (g.fi q), Value.int .i32 (g.la q), Value.slice (rra q) (g.sl q) (rrc q))
  rrd : ∀ q, q < g.n → IntsAt .i32 w (rra q) (g.sl q) (g.s q) (rrb q) 0
  fresh : RunsFor b0 w R d ra rc E (unl N d.n d.n) l

section
variable {w : World} {d : Vd} {m : Vm} {g : Rd} {k : Rm} {N : Nat → Int} {E : Nat → Nat} {nb eb lb vb pv : Nat} {ra : Nat → Option Addr} {rc rb : Nat → Nat} {V W I R : Value} {l0 l : List (Value × Value × Value × Value)} {rra : Nat → Option Addr} {rrc rrb : Nat → Nat} {b0 : Nat}

theorem own_lt {w : World} {base : Nat} {R : Value} {l : List (Value × Value × Value × Value)} (h : OwnsR w base R l) {k : Nat} (hk : R.ownBlock = some k) : k < w.heap.size := by
  rcases h.2 with ⟨h1, h2⟩ | ⟨g, cap, cur, hv, _, hg, _⟩
  · rw [h1] at hk; simp [Value.ownBlock] at hk
  · rw [hv] at hk
    simp [Value.ownBlock] at hk
    subst hk
    exact (Array.getElem?_eq_some_iff.1 hg).1

theorem Aft.later (h : Aft w d m g k N E nb eb lb vb pv ra rc rb V W I R l0 l rra rrc rrb b0) {w' : World} (s : w.Since w.heap.size w') : Aft w' d m g k N E nb eb lb vb pv ra rc rb V W I R l0 l rra rrc rrb b0 :=
  ⟨h.vers.later s (Nat.le_refl _), h.runs.later s (Nat.le_refl _), rowLater h.next s (Nat.le_refl _), rowLater h.ends s (Nat.le_refl _), rowLater h.led s (Nat.le_refl _), fun hn => rowLater (h.vrow hn) s (Nat.le_refl _), fun i hi => (h.rd i hi).later s (Nat.le_refl _),
    rowLater h.vw s (Nat.le_refl _), h.own.of_block (fun q hq => s.block q (own_lt h.own hq)), h.len0, h.l0at, fun q hq => (h.rrd q hq).later s (Nat.le_refl _), h.fresh.move (fun sb v h1 h2 h3 => ⟨cell_later s (Nat.le_refl _) h3, h2⟩)⟩

/-- The runs' slice, written out. -/
theorem Aft.shape (h : Aft w d m g k N E nb eb lb vb pv ra rc rb V W I R l0 l rra rrc rrb b0) : ∃ a c gg, R = .slice a (g.n + (unl N d.n d.n).length) c ∧ ∀ q x y u S, (l0 ++ l)[q]? = some (x, y, u, S) → a = some ⟨gg, 0, none⟩ ∧ w.cell? ⟨gg, q * 4, none⟩ = some x ∧ w.cell? ⟨gg, q * 4 + 1, none⟩ = some y ∧ w.cell? ⟨gg, q * 4 + 2, none⟩ = some u ∧ w.cell? ⟨gg, q * 4 + 3, none⟩ = some S := by
  have hl : (l0 ++ l).length = g.n + (unl N d.n d.n).length := by rw [List.length_append, h.len0, h.fresh.1]
  rcases h.own.2 with ⟨h1, h2⟩ | ⟨gg, cap, cur, hv, _, hg, _⟩
  · refine ⟨none, 0, 0, by rw [← hl, h2]; exact h1, fun q x y u S hq => ?_⟩
    have := (List.getElem?_eq_some_iff.1 hq).1
    omega
  · refine ⟨some ⟨gg, 0, none⟩, cap, gg, by rw [← hl]; exact hv, fun q x y u S hq => ?_⟩
    obtain ⟨g', cap', hv', _, c0, c1, c2, c3⟩ := h.own.cells hq
    have e : g' = gg := by rw [hv] at hv'; simp at hv'; exact hv'.1.symm
    subst e
    exact ⟨rfl, c0, c1, c2, c3⟩
end

/-- The unled versions behind i. -/
theorem unl_split (N : Nat → Int) (n : Nat) {i j : Nat} (h : i ≤ j) : ∃ r, unl N n j = unl N n i ++ r := by
  induction j with
  | zero => have : i = 0 := by omega
            subst this; exact ⟨[], by simp⟩
  | succ j ih =>
    by_cases e : i = j + 1
    · subst e; exact ⟨[], by simp⟩
    · obtain ⟨r, hr⟩ := ih (by omega)
      cases hl : ledTo N n j with
      | true => exact ⟨r, by rw [unl_led hl, hr]⟩
      | false => exact ⟨r ++ [j], by rw [unl_free hl, hr, List.append_assoc]⟩
theorem unl_at (N : Nat → Int) (n : Nat) {i : Nat} (hi : i < n) (hl : ledTo N n i = false) : (unl N n n)[(unl N n i).length]? = some i := by
  obtain ⟨r, hr⟩ := unl_split N n (i := i + 1) (j := n) hi
  rw [hr, unl_free hl]
  simp

theorem VOwn.later {w w' : World} {d : Vd} {N : Nat → Int} {vb : Nat} {ra : Nat → Option Addr} {rc rb : Nat → Nat} (h : VOwn w d N vb ra rc rb) {B : Nat} (s : w.Since B w') (hB : w.heap.size ≤ B) : VOwn w' d N vb ra rc rb :=
  ⟨rowLater h.row s hB, fun i hi => ⟨(h.rd i hi).1.later s hB, (h.rd i hi).2⟩⟩
theorem ROwn.later {w w' : World} {d : Rd} {gb : Nat} {ra : Nat → Option Addr} {rc rb : Nat → Nat} (h : ROwn w d gb ra rc rb) {B : Nat} (s : w.Since B w') (hB : w.heap.size ≤ B) : ROwn w' d gb ra rc rb :=
  ⟨rowLater h.row s hB, fun i hi => ⟨(h.rd i hi).1.later s hB, (h.rd i hi).2⟩⟩

/-- The runs handed in, as the list that linkRuns appends to. -/
structure RIn (w : World) (B : Nat) (g : Rd) (R : Value) (l0 : List (Value × Value × Value × Value)) (rra : Nat → Option Addr) (rrc rrb : Nat → Nat) : Prop where
  own : OwnsR w 0 R l0
  len : l0.length = g.n
  at' : ∀ q, q < g.n → l0[q]? = some (Value.int .i32 (g.it q), Value.int .i32 (g.fi q), Value.int .i32 (g.la q), Value.slice (rra q) (g.sl q) (rrc q))
  rd : ∀ q, q < g.n → IntsAt .i32 w (rra q) (g.sl q) (g.s q) (rrb q) 0
  blk : ∀ q, R.ownBlock = some q → B ≤ q
  far : ∀ q j, R.ownBlock = some q → j < g.n → rrb j ≠ q
  lo : ∀ j, j < g.n → B ≤ rrb j

theorem runs_in {w w' : World} {e' : Ending} {g : Rd} (h : RunsMade w w' e' g) (hn : g.n ≤ 1048576) : ∃ a c l0 rra rrc rrb, e' = .returned (.slice a g.n c) ∧ w.Since w.heap.size w' ∧ RIn w' w.heap.size g (.slice a g.n c) l0 rra rrc rrb := by
  obtain ⟨s, ⟨h0, he⟩ | ⟨gb, ra, rc, rb, he, hgb, ho⟩⟩ := h
  · refine ⟨none, 0, [], fun _ => none, fun _ => 0, fun _ => 0, by rw [h0]; exact he, s, ?_⟩
    refine ⟨by rw [h0]; exact OwnsR.nil _ _, by simp [h0], fun q hq => by omega, fun q hq => by omega, fun q hq => by simp [Value.ownBlock] at hq, fun q j hq => by simp [Value.ownBlock] at hq, fun j hj => by omega⟩
  · refine ⟨some ⟨gb, 0, none⟩, g.n, _, ra, rc, rb, he, s, ⟨OwnsR.ofRow ho.row (Nat.zero_le _) hn, by simp, fun q hq => ?_, fun q hq => (ho.rd q hq).1, fun q hq => ?_, fun q j hq hj => ?_, fun j hj => by have := (ho.rd j hj).2; omega⟩⟩
    · rw [List.getElem?_map, List.getElem?_range hq]; rfl
    · simp [Value.ownBlock] at hq; subst hq; exact hgb
    · simp [Value.ownBlock] at hq; subst hq
      have := (ho.rd j hj).2
      omega

theorem ints_lt {k : IntKind} {w : World} {a : Option Addr} {n : Nat} {X : Nat → Int} {b o : Nat} (h : IntsAt k w a n X b o) (hn : 0 < n) : b < w.heap.size := World.block_lt_of_cell? _ _ (h.cell 0 hn)

/-- linkRuns, called on the views that were made. -/
theorem link_all {w4 w5 w6 w7 : World} {d : Vd} {m : Vm} {e : Wd} {g : Rd} {k : Rm} {E : Nat → Nat} {K nb eb lb vb : Nat} {xa ga : Option Addr} {xc gc c6 : Nat} {ra : Nat → Option Addr} {rc rb : Nat → Nat} {f : Wm} {imp : Bool} {l0 : List (Value × Value × Value × Value)} {rra : Nat → Option Addr} {rrc rrb : Nat → Nat}
    (v4 : VersAt w4 d m) (r4 : RunsAt w4 g k) (hnx : w4.rowIs nb 21 d.n (fun j => .int .i32 (nextOf d e j))) (hen : w4.rowIs eb 3 d.n (fun j => .int .i64 (E j : Int))) (hle : w4.rowIs lb 4 d.n (fun j => .bool (ledTo (nextOf d e) d.n j)))
    (s5 : w4.Since w4.heap.size w5) (hvb : 0 < d.n → xa = some ⟨vb, 0, none⟩ ∧ w4.heap.size ≤ vb ∧ VOwn w5 d d.nx vb ra rc rb)
    (s6 : w5.Since w5.heap.size w6) (hw6 : WritesAt w6 e f) (hf : w5.heap.size ≤ f.b) (hft : ∀ t, t < e.n → 0 < e.l t → w5.heap.size ≤ f.rb t)
    (s7 : w6.Since w6.heap.size w7) (hr : RIn w7 w6.heap.size g (.slice ga g.n gc) l0 rra rrc rrb)
    (hD : DomV d e) (hn : d.n ≤ 1048576) (hrl : ∀ i, i < d.n → d.rl i ≤ 1048576) (hgn : g.n ≤ 1048576) (hE : itr (stepN (nextOf d e)) K = E) (hch : ∀ i, i < d.n → ledTo (nextOf d e) d.n i = false → nextOf d e (E i) < 0) :
    Calls Try.prog 51 #[.pointer (some ⟨w7.heap.size, 0, none⟩)] (w7.alloc (.cells #[.slice none 0 0, .slice xa d.n xc, .slice none 0 0, .slice ga g.n gc, .slice none 0 0, .slice none 0 0, .slice f.a e.n c6, .slice none 0 0, .slice none 0 0, .slice none 0 0, .bool false, .bool imp] 89)) fun e' w9 =>
      e' = .returned (.tuple #[]) ∧ w4.Since w4.heap.size w9 ∧ ∃ vb' R l, (0 < d.n → xa = some ⟨vb', 0, none⟩) ∧ Aft w9 d m g k (nextOf d e) E nb eb lb vb' w7.heap.size ra rc rb (.slice xa d.n xc) (.slice f.a e.n c6) (.bool (imp || clashTo d e d.n)) R l0 l rra rrc rrb w7.heap.size := by
  subst hE
  obtain ⟨vb', h1, h0⟩ : ∃ vb', (0 < d.n → vb' = vb) ∧ (d.n = 0 → vb' = w7.heap.size) := by
    by_cases hz : d.n = 0
    · exact ⟨w7.heap.size, fun h => by omega, fun _ => rfl⟩
    · exact ⟨vb, fun _ => rfl, fun h => absurd h hz⟩
  obtain ⟨w8, hw8⟩ : ∃ w8, w7.alloc (.cells #[.slice none 0 0, .slice xa d.n xc, .slice none 0 0, .slice ga g.n gc, .slice none 0 0, .slice none 0 0, .slice f.a e.n c6, .slice none 0 0, .slice none 0 0, .slice none 0 0, .bool false, .bool imp] 89) = w8 := ⟨_, rfl⟩
  have hvw := vw_made w7 (.slice xa d.n xc) (.slice ga g.n gc) (.slice f.a e.n c6) (.bool imp)
  have s8 : w7.Since w7.heap.size w8 := by rw [← hw8]; exact (World.Since.refl _ _).alloc (Nat.le_refl _) _
  rw [hw8] at hvw ⊢
  have z5 := s5.size
  have z6 := s6.size
  have z7 := s7.size
  have s58 := sinceC s6 (sinceC s7 s8)
  have s68 := sinceC s7 s8
  have s48 := sinceC s5 s58
  have hlt : 0 < d.n → vb < w5.heap.size := fun hp => (hvb hp).2.2.row.lt
  have hown8 : 0 < d.n → VOwn w8 d d.nx vb ra rc rb := fun hp => (hvb hp).2.2.later s58 (Nat.le_refl _)
  have hrb : ∀ i, i < d.n → 0 < d.rl i → vb < rb i ∧ rb i < w5.heap.size := fun i hi hl => ⟨((hvb (by omega)).2.2.rd i hi).2, ints_lt ((hvb (by omega)).2.2.rd i hi).1 hl⟩
  have hwl : 0 < e.n → f.b < w6.heap.size := fun hp => World.block_lt_of_cell? _ _ (hw6.row 0 hp)
  have hwt : ∀ t, t < e.n → 0 < e.l t → f.rb t < w6.heap.size := fun t ht hl => World.block_lt_of_cell? _ _ (hw6.cv t ht 0 hl)
  have hvb' : vb' = vb ∨ vb' = w7.heap.size := by
    by_cases hz : 0 < d.n
    · exact .inl (h1 hz)
    · exact .inr (h0 (by omega))
  have hgl := fun q hq => own_lt hr.own (k := q) hq
  refine (link51 (vb := vb') (pv := w7.heap.size) (ra := ra) (rc := rc) (rb := rb) (f := f) (z := zV) (K := K) (l0 := l0) (fun hp => by rw [h1 hp]; exact ⟨(hvb hp).1, hown8 hp⟩) (fun hp => by rw [h1 hp]; have := hlt hp; omega) (hw6.later s68 (Nat.le_refl _)) hvw hD hn hrl ?_ ?_ ?_ (hr.own.of_block (fun q hq => s8.block q (hgl q hq))) (by rw [hr.len]; exact hgn) ?_ h0 hch).mono ?_
  · rintro i hi hl (q | q)
    · have := hrb i hi hl; omega
    · have := hrb i hi hl; rw [h1 (by omega)] at q; omega
  · rintro hp (q | q)
    · have := hwl hp; omega
    · have := hwl hp
      by_cases hz : 0 < d.n
      · rw [h1 hz] at q; have := hlt hz; omega
      · rw [h0 (by omega)] at q; omega
  · rintro t ht hl (q | q)
    · have := hwt t ht hl; omega
    · have := hwt t ht hl; have := hft t ht hl
      by_cases hz : 0 < d.n
      · rw [h1 hz] at q; have := hlt hz; omega
      · rw [h0 (by omega)] at q; omega
  · intro q hq
    have := hgl q hq
    have := hr.blk q hq
    exact ⟨by omega, fun hz => by rw [h1 hz]; have := hlt hz; omega⟩
  rintro e' w9 ⟨he, keeps, hrow, R, l, hvw9, hown, hfresh⟩
  have s89 : w8.Since w4.heap.size w9 := keeps.since s48.size (fun q hq => by
    rintro (h | h | h)
    · omega
    · by_cases hz : 0 < d.n
      · rw [h1 hz] at h; have := (hvb hz).2.1; omega
      · rw [h0 (by omega)] at h; omega
    · have := hr.blk q h; omega)
  have s49 := s48.trans s89
  refine ⟨he, s49, vb', R, l, fun hp => by rw [h1 hp]; exact (hvb hp).1, ⟨v4.later s49 (Nat.le_refl _), r4.later s49 (Nat.le_refl _), rowLater hnx s49 (Nat.le_refl _), rowLater hen s49 (Nat.le_refl _), rowLater hle s49 (Nat.le_refl _), hrow, fun i hi => ?_, hvw9, hown, hr.len, hr.at', fun q hq => ?_, ?_⟩⟩
  · refine keeps.ints ((hown8 (by omega)).rd i hi).1 (fun hl => ?_)
    obtain ⟨q1, q2⟩ := hrb i hi hl
    rintro (h | h | h)
    · omega
    · rw [h1 (by omega)] at h; omega
    · have := hr.blk _ h; omega
  · refine keeps.ints ((hr.rd q hq).later s8 (Nat.le_refl _)) (fun hl => ?_)
    have q1 := ints_lt (hr.rd q hq) hl
    have q2 := hr.lo q hq
    rintro (h | h | h)
    · omega
    · by_cases hz : 0 < d.n
      · rw [h1 hz] at h; have := hlt hz; omega
      · rw [h0 (by omega)] at h; omega
    · exact hr.far _ q h hq rfl
  · have z8 := s8.size
    refine ⟨hfresh.1, fun j x hx => ?_⟩
    obtain ⟨S, q1, q2⟩ := hfresh.2 j x hx
    refine ⟨S, q1, ?_⟩
    rcases q2 with q2 | ⟨a1, a2, sb, a3, a4, a5, a6⟩
    · exact .inl q2
    · exact .inr ⟨a1, a2, sb, a3, by omega, a5, a6⟩

end Go.Proofs.Qxb6601390a
