/-
  (*views).linkRuns (51).
-/
import Derived.Test.Qxb6601390aLRuns
import Derived.Test.Qxb6601390aLIn4
import Derived.Deep.RegionLaw
import Derived.Deep.RegionHeldLaw
namespace Go.Proofs.Qxb6601390a
open Go.RowKit Plain

/-- The links while version i is being linked, p its matches so far. -/
def nxt (d : Vd) (e : Wd) (i : Nat) (p : List Nat) (q : Nat) : Int := if q < i then nextOf d e q else if q = i then nextP (d.nx i) p else d.nx q
theorem nxt_start (d : Vd) (e : Wd) (q : Nat) : d.nx q = nxt d e 0 [] q := by
  simp only [nxt, Nat.not_lt_zero, if_false]
  by_cases g : q = 0
  · subst g; simp [nextP_nil]
  · simp [g]
theorem nxt_next (d : Vd) (e : Wd) (i q : Nat) : nxt d e i (mt d e i) q = nxt d e (i + 1) [] q := by
  simp only [nxt]
  by_cases g : q < i
  · rw [if_pos g, if_pos (by omega)]
  · by_cases g2 : q = i
    · subst g2; rw [if_neg g, if_pos rfl, if_pos (by omega)]; rfl
    · rw [if_neg g, if_neg g2, if_neg (by omega)]
      by_cases g3 : q = i + 1
      · subst g3; simp [nextP_nil]
      · simp [g3]
/-- THE LINKING LOOPS. -/
structure Ph1 (w wr : World) (d : Vd) (e : Wd) (vb pv : Nat) (ra : Nat → Option Addr) (rc : Nat → Nat) (z : Nat → Value) (V R W : Value) (imp : Bool) (i : Nat) (p : List Nat) : Prop where
  keeps : Keeps (fun k => k = pv ∨ k = vb) w wr
  row : 0 < d.n → wr.rowIs vb 46 (d.n * 4) (vCols d ra rc (nxt d e i p))
  vw : wr.rowIs pv 89 12 (vwCell z V R W (.bool (imp || (clashTo d e i || clashP (d.nx i) p))))

theorem Ph1.cells {w wr : World} {d : Vd} {e : Wd} {vb pv : Nat} {ra : Nat → Option Addr} {rc : Nat → Nat} {z : Nat → Value} {V R W : Value} {imp : Bool} {i : Nat} {p : List Nat} (h : Ph1 w wr d e vb pv ra rc z V R W imp i p) :
    wr.cell? ⟨pv, 1, none⟩ = some V ∧ wr.cell? ⟨pv, 3, none⟩ = some R ∧ wr.cell? ⟨pv, 6, none⟩ = some W ∧ wr.cell? ⟨pv, 11, none⟩ = some (.bool (imp || (clashTo d e i || clashP (d.nx i) p))) :=
  ⟨h.vw.cell (i := 1) (by omega), h.vw.cell (i := 3) (by omega), h.vw.cell (i := 6) (by omega), h.vw.cell (i := 11) (by omega)⟩
theorem Ph1.ver {w wr : World} {d : Vd} {e : Wd} {vb pv : Nat} {ra : Nat → Option Addr} {rc : Nat → Nat} {z : Nat → Value} {V R W : Value} {imp : Bool} {i : Nat} {p : List Nat} (h : Ph1 w wr d e vb pv ra rc z V R W imp i p) {q : Nat} (hq : q < d.n) :
    wr.cell? ⟨vb, q * 4, none⟩ = some (.int .i32 (d.wr q)) ∧ wr.cell? ⟨vb, q * 4 + 1, none⟩ = some (.int .i32 (d.it q)) ∧ wr.cell? ⟨vb, q * 4 + 2, none⟩ = some (.slice (ra q) (d.rl q) (rc q)) ∧ wr.cell? ⟨vb, q * 4 + 3, none⟩ = some (.int .i32 (nxt d e i p q)) :=
  quad_cells (h.row (by omega)) hq
theorem Ph1.alloc {w wr : World} {d : Vd} {e : Wd} {vb pv : Nat} {ra : Nat → Option Addr} {rc : Nat → Nat} {z : Nat → Value} {V R W : Value} {imp : Bool} {i : Nat} {p : List Nat} (h : Ph1 w wr d e vb pv ra rc z V R W imp i p) (o : Obj) : Ph1 w (wr.alloc o) d e vb pv ra rc z V R W imp i p :=
  ⟨h.keeps.alloc o, fun hn => (h.row hn).alloc o, h.vw.alloc o⟩
theorem Ph1.drewN {w wr : World} {d : Vd} {e : Wd} {vb pv : Nat} {ra : Nat → Option Addr} {rc : Nat → Nat} {z : Nat → Value} {V R W : Value} {imp : Bool} {i : Nat} {p : List Nat} (h : Ph1 w wr d e vb pv ra rc z V R W imp i p) (n : Nat) : Ph1 w (wr.drewN n) d e vb pv ra rc z V R W imp i p :=
  ⟨h.keeps.drewN n, h.row, h.vw⟩
/-- A match more: the link is set; where the version was linked already, 'impossible' too. -/
theorem Ph1.link {w wr : World} {d : Vd} {e : Wd} {vb pv : Nat} {ra : Nat → Option Addr} {rc : Nat → Nat} {z : Nat → Value} {V R W : Value} {imp : Bool} {i : Nat} {p : List Nat} (h : Ph1 w wr d e vb pv ra rc z V R W imp i p) (hne : vb ≠ pv) (v : Nat) (hno : ¬ 0 ≤ nextP (d.nx i) p) :
    Ph1 w (wr.setCell ⟨vb, i * 4 + 3, none⟩ (.int .i32 (v : Int))) d e vb pv ra rc z V R W imp i (p ++ [v]) := by
  refine ⟨h.keeps.setCell (.inr rfl) _, fun hn => ((h.row hn).set _ _).congr (fun q _ => ?_), (h.vw.setOther (by show pv ≠ vb; omega) _).congr (fun q _ => ?_)⟩
  · simp only [vCols]
    by_cases g : q = i * 4 + 3
    · subst g; rw [if_pos rfl, quad3]; simp [nxt, nextP_snoc]
    · rw [if_neg g]
      simp only [quad]
      by_cases m0 : q % 4 = 0
      · simp [m0]
      by_cases m1 : q % 4 = 1
      · simp [m1]
      by_cases m2 : q % 4 = 2
      · simp [m2]
      have : q / 4 ≠ i := by omega
      simp [m0, m1, m2, nxt, this]
  · rw [clashP_snoc]; simp [hno]
theorem Ph1.clash {w wr : World} {d : Vd} {e : Wd} {vb pv : Nat} {ra : Nat → Option Addr} {rc : Nat → Nat} {z : Nat → Value} {V R W : Value} {imp : Bool} {i : Nat} {p : List Nat} (h : Ph1 w wr d e vb pv ra rc z V R W imp i p) (hne : vb ≠ pv) (v : Nat) (hyes : 0 ≤ nextP (d.nx i) p) :
    Ph1 w ((wr.setCell ⟨pv, 11, none⟩ (.bool true)).setCell ⟨vb, i * 4 + 3, none⟩ (.int .i32 (v : Int))) d e vb pv ra rc z V R W imp i (p ++ [v]) := by
  refine ⟨(h.keeps.setCell (.inl rfl) _).setCell (.inr rfl) _, fun hn => (((h.row hn).setOther (by show vb ≠ pv; omega) _).set _ _).congr (fun q _ => ?_), ((h.vw.set _ _).setOther (by show pv ≠ vb; omega) _).congr (fun q _ => ?_)⟩
  · simp only [vCols]
    by_cases g : q = i * 4 + 3
    · subst g; rw [if_pos rfl, quad3]; simp [nxt, nextP_snoc]
    · rw [if_neg g]
      simp only [quad]
      by_cases m0 : q % 4 = 0
      · simp [m0]
      by_cases m1 : q % 4 = 1
      · simp [m1]
      by_cases m2 : q % 4 = 2
      · simp [m2]
      have : q / 4 ≠ i := by omega
      simp [m0, m1, m2, nxt, this]
  · rw [clashP_snoc]
    by_cases g : q = 11
    · subst g; simp [vwCell, hyes]
    · rw [if_neg g]; simp [vwCell, g]

/-- A store into another, newer block. -/
theorem Ph1.setFar {w wr : World} {d : Vd} {e : Wd} {vb pv : Nat} {ra : Nat → Option Addr} {rc : Nat → Nat} {z : Nat → Value} {V R W : Value} {imp : Bool} {i : Nat} {p : List Nat} (h : Ph1 w wr d e vb pv ra rc z V R W imp i p) {a : Addr} (h1 : w.heap.size ≤ a.block) (h2 : pv ≠ a.block) (h3 : 0 < d.n → vb ≠ a.block) (v : Value) :
    Ph1 w (wr.setCell a v) d e vb pv ra rc z V R W imp i p :=
  ⟨h.keeps.setNew h1 v, fun hn => (h.row hn).setOther (h3 hn) _, h.vw.setOther h2 _⟩
theorem nxt_end (d : Vd) (e : Wd) {q : Nat} (hq : q < d.n) : nxt d e d.n [] q = nextOf d e q := by simp [nxt, hq]

theorem Keeps.mono {b b' : Nat → Prop} {w w' : World} (h : Keeps b w w') (hb : ∀ k, b k → b' k) : Keeps b' w w' :=
  ⟨h.os, h.tape, h.output, h.size, fun k hk hn => h.block k hk (fun q => hn (hb k q))⟩

/-- WHAT linkRuns LEAVES. -/
def Linked (w w' : World) (e' : Ending) (d : Vd) (e : Wd) (vb pv : Nat) (ra : Nat → Option Addr) (rc : Nat → Nat) (z : Nat → Value) (V W : Value) (imp : Bool) (R0 : Value) (l0 : List (Value × Value × Value × Value)) (E : Nat → Nat) : Prop :=
  e' = .returned (.tuple #[]) ∧ Keeps (fun k => k = pv ∨ k = vb ∨ R0.ownBlock = some k) w w' ∧ (0 < d.n → w'.rowIs vb 46 (d.n * 4) (vCols d ra rc (nextOf d e))) ∧ ∃ R l, w'.rowIs pv 89 12 (vwCell z V R W (.bool (imp || clashTo d e d.n))) ∧ OwnsR w' 0 R (l0 ++ l) ∧ RunsFor w.heap.size w' R d ra rc E (unl (nextOf d e) d.n d.n) l

theorem Ph3.start {w wr : World} {d : Vd} {e : Wd} {vb pv lb : Nat} {ra : Nat → Option Addr} {rc : Nat → Nat} {z : Nat → Value} {V R W : Value} {imp : Bool} (h : Ph1 w wr d e vb pv ra rc z V R W imp d.n []) (hl : wr.rowIs lb 4 d.n (fun j => .bool (ledTo (nextOf d e) d.n j))) {l0 : List (Value × Value × Value × Value)} (hR : OwnsR w 0 R l0) (hRb : ∀ k, R.ownBlock = some k → k ≠ pv ∧ (0 < d.n → k ≠ vb)) (h0 : d.n = 0 → vb = pv) (hlb : w.heap.size ≤ lb) (E : Nat → Nat) :
    Ph3 w wr d (nextOf d e) vb pv lb ra rc z V W (.bool (imp || clashTo d e d.n)) E l0 R 0 R [] := by
  have hlt : ∀ k, R.ownBlock = some k → k < w.heap.size := fun k hk => by
    rcases hR.2 with ⟨h1, h2⟩ | ⟨g, cap, cur, hv, _, hg, _⟩
    · rw [h1] at hk; simp [Value.ownBlock] at hk
    · rw [hv] at hk
      simp [Value.ownBlock] at hk
      subst hk
      exact (Array.getElem?_eq_some_iff.1 hg).1
  refine ⟨h.keeps.mono (fun k hk => by rcases hk with e | e; exact .inl e; exact .inr (.inl e)), fun hn => (quad_congr (h.row hn) (fun i hi => ⟨rfl, rfl, rfl, by rw [nxt_end d e hi]⟩)), h.vw.congr (fun q _ => by simp [clashP]), hl, ?_, fun k hk => ⟨(hRb k hk).1, (hRb k hk).2, by have := hlt k hk; omega, .inl hk⟩, ⟨rfl, fun k x hx => by simp [unl] at hx⟩, Nat.le_refl _⟩
  rw [List.append_nil]
  refine hR.of_block (fun k hk => h.keeps.block k (hlt k hk) ?_)
  rintro (e | e)
  · exact (hRb k hk).1 e
  · by_cases hn : 0 < d.n
    · exact (hRb k hk).2 hn e
    · exact (hRb k hk).1 (e.trans (h0 (by omega)))

/-- What the append of a run asks, W the world in which it happens; and what comes of it. -/
structure Pushes (w W : World) (d : Vd) (N : Nat → Int) (vb pv lb : Nat) (ra : Nat → Option Addr) (rc : Nat → Nat) (z : Nat → Value) (V V' I : Value) (E : Nat → Nat) (l0 : List (Value × Value × Value × Value)) (R0 : Value) (i : Nat) (R : Value) (l : List (Value × Value × Value × Value)) (B : Nat) (x y u S : Value) : Prop where
  own : W.ownsRow 0 56 4 R (l0 ++ l).length (cells4 (l0 ++ l))
  news : ∀ (j : Nat) (v : Value), [x, y, u, S][j]? = some v → W.cell? ((⟨B, 0, none⟩ : Addr).add j) = some v
  one : ∀ v ∈ [x, y, u, S], v.oneCell' = true
  b1 : (l0 ++ l).length + 1 ≤ maxLen
  b2 : ((l0 ++ l).length + 1) * 40 ≤ 140737488355328
  size : W.heap.size = B + 1
  c3 : ∀ w1, W.grownBy w1 R.ownBlock → w1.cell? ⟨pv, 3, none⟩ = some R
  f3 : ∀ w1, W.grownBy w1 R.ownBlock → w1.frozen? ⟨pv, 3, none⟩ = false
  done : ∀ w1 g cap, w1.ownsRow 0 56 4 (.slice (some ⟨g, 0, none⟩) ((l0 ++ l).length + 1) cap) ((l0 ++ l).length + 1) (cells4 (l0 ++ l) ++ [x, y, u, S]) → W.grownBy w1 R.ownBlock → (R.ownBlock = some g ∨ g = B + 1) →
    Ph3 w (w1.setCell ⟨pv, 3, none⟩ (.slice (some ⟨g, 0, none⟩) ((l0 ++ l).length + 1) cap)) d N vb pv lb ra rc z V V' I E l0 R0 (i + 1) (.slice (some ⟨g, 0, none⟩) ((l0 ++ l).length + 1) cap) (l ++ [(x, y, u, S)])

theorem Ph3.push1 {w wr : World} {d : Vd} {N : Nat → Int} {vb pv lb : Nat} {ra : Nat → Option Addr} {rc : Nat → Nat} {z : Nat → Value} {V W I : Value} {E : Nat → Nat} {l0 : List (Value × Value × Value × Value)} {R0 : Value} {i : Nat} {R : Value} {l : List (Value × Value × Value × Value)}
    (h : Ph3 w wr d N vb pv lb ra rc z V W I E l0 R0 i R l) (hl : ledTo N d.n i = false) (hpv : pv < w.heap.size) (hvb : 0 < d.n → vb < w.heap.size) (hvp : 0 < d.n → vb ≠ pv) (hlb : lb ≠ pv) {a : Option Addr} {n c : Nat} (hS : SinkIs w.heap.size wr R d ra rc (E i) (.slice a n c)) {y : Nat} (hy : E i = y) (hl0 : l0.length ≤ 1048576) (hn : d.n ≤ 1048576) (hi : i < d.n) :
    Aside (Pushes w (wr.alloc (.cells #[.int .i32 (d.it i), .int .i32 (i : Int), .int .i32 (y : Int), .slice a n c] 56)).drew d N vb pv lb ra rc z V W I E l0 R0 i R l wr.heap.size (.int .i32 (d.it i)) (.int .i32 (i : Int)) (.int .i32 (y : Int)) (.slice a n c)) := by
  subst hy
  have hP := (h.alloc (.cells #[.int .i32 (d.it i), .int .i32 (i : Int), .int .i32 (E i : Int), .slice a n c] 56)).drewN 1
  have hS' : SinkIs w.heap.size ((wr.alloc (.cells #[.int .i32 (d.it i), .int .i32 (i : Int), .int .i32 (E i : Int), .slice a n c] 56)).drewN 1) R d ra rc (E i) (.slice a n c) :=
    hS.move (fun sb v h1 h2 h3 => ⟨by show (wr.alloc _).cell? _ = _; rw [World.cell?_of_block (w := wr) (Go.Deep.blk_alloc_lt _ _ _ (World.block_lt_of_cell? _ _ h3))]; exact h3, h2⟩)
  have hlen := h.le
  have hmx : maxLen = 9223372036854775807 := rfl
  have hpn : R.ownBlock ≠ some pv := fun e => (h.far _ e).1 rfl
  have hsz : ((wr.alloc (.cells #[.int .i32 (d.it i), .int .i32 (i : Int), .int .i32 (E i : Int), .slice a n c] 56)).drewN 1).heap.size = wr.heap.size + 1 := by show (wr.alloc _).heap.size = _; simp
  refine ⟨hP.runs, fun j v hv => ?_, ?_, by simp; omega, by simp; omega, hsz, fun w1 gr => ?_, fun w1 gr => ?_, fun w1 g cap own gr hat => ?_⟩
  · exact World.news_of_block (B := wr.heap.size) (cs := #[.int .i32 (d.it i), .int .i32 (i : Int), .int .i32 (E i : Int), .slice a n c]) (t := 56) (fr := (0, 0)) (by show (wr.alloc _).heap[_]? = _; exact (MapKept.heap_alloc wr _).1) j v hv
  · intro v hv
    simp at hv
    rcases hv with rfl | rfl | rfl | rfl <;> rfl
  · exact gr.cell (hP.vw.cell (i := 3) (by omega)) (fun e => hpn e.symm)
  · exact (World.frozen?_of_block (gr.block _ hP.vw.lt (fun e => hpn e.symm))).trans (hP.vw.frozen 3)
  · exact hP.push hl hpv hvb hvp hlb hS' own gr (hat.imp id (fun e => e.trans hsz.symm))

set_option maxHeartbeats 3200000 in
set_option maxRecDepth 100000 in
theorem link51 {w : World} {d : Vd} {e : Wd} {va : Option Addr} {vb pv vc wc : Nat} {ra : Nat → Option Addr} {rc rb : Nat → Nat} {f : Wm} {z : Nat → Value} {R : Value} {imp : Bool}
    (hva : 0 < d.n → va = some ⟨vb, 0, none⟩ ∧ VOwn w d d.nx vb ra rc rb) (hne : 0 < d.n → vb ≠ pv) (hw : WritesAt w e f)
    (hvw : w.rowIs pv 89 12 (vwCell z (.slice va d.n vc) R (.slice f.a e.n wc) (.bool imp))) (hD : DomV d e) (hn : d.n ≤ 1048576) (hrl : ∀ i, i < d.n → d.rl i ≤ 1048576)
    (hbr : ∀ i, i < d.n → 0 < d.rl i → ¬ (rb i = pv ∨ rb i = vb)) (hbw : 0 < e.n → ¬ (f.b = pv ∨ f.b = vb)) (hbt : ∀ t, t < e.n → 0 < e.l t → ¬ (f.rb t = pv ∨ f.rb t = vb))
    {l0 : List (Value × Value × Value × Value)} (hR : OwnsR w 0 R l0) (hl0 : l0.length ≤ 1048576) (hRb : ∀ k, R.ownBlock = some k → k ≠ pv ∧ (0 < d.n → k ≠ vb)) (hvp : d.n = 0 → vb = pv) {K : Nat} (hch : ∀ i, i < d.n → ledTo (nextOf d e) d.n i = false → nextOf d e (itr (stepN (nextOf d e)) K i) < 0) :
    Calls Try.prog 51 #[.pointer (some ⟨pv, 0, none⟩)] w fun e' w' => Linked w w' e' d e vb pv ra rc z (.slice va d.n vc) (.slice f.a e.n wc) imp R l0 (itr (stepN (nextOf d e)) K) := by
  have b2 := hw.bN
  obtain ⟨wa, Hwa⟩ : ∃ wa, Aside (f.a = wa) := ⟨_, rfl⟩
  rw [Hwa.out] at hvw
  rw [Hwa.out]
  have HRR : Aside (OwnsR w 0 R l0 ∧ (∀ k, R.ownBlock = some k → k ≠ pv ∧ (0 < d.n → k ≠ vb)) ∧ (d.n = 0 → vb = pv)) := ⟨hR, hRb, hvp⟩
  have HCH : Aside (∀ i, i < d.n → ledTo (nextOf d e) d.n i = false → nextOf d e (itr (stepN (nextOf d e)) K i) < 0) := hch
  clear hR hRb hch hvp
  have HVA : Aside (0 < d.n → va = some ⟨vb, 0, none⟩ ∧ VOwn w d d.nx vb ra rc rb) := hva
  have HNE : Aside (0 < d.n → vb ≠ pv) := hne
  have HW : Aside (WritesAt w e f) := hw
  have HD : Aside (DomV d e) := hD
  have HPV : Aside (pv < w.heap.size) := hvw.lt
  have HRL : Aside (∀ i, i < d.n → d.rl i ≤ 1048576) := hrl
  have HB : Aside ((∀ i, i < d.n → 0 < d.rl i → ¬ (rb i = pv ∨ rb i = vb)) ∧ (0 < e.n → ¬ (f.b = pv ∨ f.b = vb)) ∧ ∀ t, t < e.n → 0 < e.l t → ¬ (f.rb t = pv ∨ f.rb t = vb)) := ⟨hbr, hbw, hbt⟩
  have h0 : Ph1 w w d e vb pv ra rc z (.slice va d.n vc) R (.slice wa e.n wc) imp 0 [] :=
    ⟨Keeps.refl _ _, fun hp => ((hva hp).2.row).congr (fun q _ => by simp only [vCols, quad, ← nxt_start]), hvw.congr (fun q _ => by simp [clashTo, clashP])⟩
  clear hva hne hw hD hbr hbw hbt hvw hrl
  obtain ⟨p1, p3, p6, p11⟩ := h0.cells
  go_enter Try.func51, Try.ntmps51
  go_wp2
  clear p1 p3 p6 p11
  go_loopg [21] d.n (fun g s21 wr => ∃ i : Nat, i ≤ d.n ∧ g = d.n - i ∧ s21 = .int .i64 (i : Int) ∧ Ph1 w wr d e vb pv ra rc z (.slice va d.n vc) R (.slice wa e.n wc) imp i [])
  case atStart => exact ⟨0, Nat.zero_le _, rfl, rfl, h0⟩
  case round =>
    clear h0
    obtain ⟨i, hi, rfl, rfl, hP⟩ := hrel
    by_cases hin : i < d.n
    · have hiz : (i : Int) < (d.n : Int) := by omega
      obtain ⟨hva, hVO⟩ := HVA.out (by omega)
      subst hva
      have HVO : Aside (VOwn w d d.nx vb ra rc rb) := hVO
      have hnev := HNE.out (by omega)
      have brl := HRL.out i hin
      obtain ⟨p1, p3, p6, p11⟩ := hP.cells
      obtain ⟨v0, v1, v2, v3⟩ := hP.ver hin
      obtain ⟨ar, HAr⟩ : ∃ ar, Aside (ra i = ar) := ⟨_, rfl⟩
      rw [HAr.out] at v2
      clear hVO
      go_wp2
      clear p1 p3 p6 p11 v0 v1 v2 v3
      obtain ⟨wo, rfl⟩ : ∃ wo : World, wo = wr := ⟨_, rfl⟩
      go_loopg [35] (d.rl i) (fun g s35 wi => ∃ k : Nat, k ≤ d.rl i ∧ g = d.rl i - k ∧ s35 = .int .i64 (k : Int) ∧ Ph1 w wi d e vb pv ra rc z (.slice (some ⟨vb, 0, none⟩) d.n vc) R (.slice wa e.n wc) imp i (mTo d e i k))
      case atStart => exact ⟨0, Nat.zero_le _, rfl, rfl, hP⟩
      case round =>
        clear hP
        obtain ⟨k, hk, rfl, rfl, hP⟩ := hrel
        by_cases hkl : k < d.rl i
        · have hkz : (k : Int) < (d.rl i : Int) := by omega
          obtain ⟨hrd, _⟩ := HVO.out.rd i hin
          have hrd2 := hP.keeps.ints hrd (fun h => HB.out.1 i hin h)
          obtain rfl : ar = some ⟨rb i, 0, none⟩ := HAr.out.symm.trans (hrd2.addr (by omega))
          have q2 := hrd2.cell k hkl
          rw [Nat.zero_add] at q2
          obtain ⟨r1, r2⟩ := HD.out.r hin hkl
          obtain ⟨t, Ht⟩ : ∃ t, Aside (rrN d i k = t) := ⟨_, rfl⟩
          rw [Ht.out] at r1 r2
          rw [r1] at q2
          have hwr := hP.keeps.writes HW.out HB.out.2.1 HB.out.2.2
          obtain rfl : wa = some ⟨f.b, f.o, none⟩ := Hwa.out.symm.trans (hwr.addr (by omega))
          have q3 := hwr.row t r2
          have bt := hwr.bl t r2
          obtain ⟨at', HAt⟩ : ∃ at', Aside (f.ra t = at') := ⟨_, rfl⟩
          rw [HAt.out] at q3
          have htz : (t : Int) < (e.n : Int) := by omega
          obtain ⟨p1, p3, p6, p11⟩ := hP.cells
          clear r1 hrd hrd2 hwr
          go_wp2
          clear q2 q3 p1 p3 p6 p11
          obtain ⟨p, Hp⟩ : ∃ p, Aside (mTo d e i k = p) := ⟨_, rfl⟩
          rw [Hp.out] at hP
          obtain ⟨wo2, rfl⟩ : ∃ wo2 : World, wo2 = wr := ⟨_, rfl⟩
          go_loopg [47] (e.l t) (fun g s47 wi => ∃ j : Nat, j ≤ e.l t ∧ g = e.l t - j ∧ s47 = .int .i64 (j : Int) ∧ Ph1 w wi d e vb pv ra rc z (.slice (some ⟨vb, 0, none⟩) d.n vc) R (.slice (some ⟨f.b, f.o, none⟩) e.n wc) imp i (p ++ rowM d e i t j))
          case atStart => exact ⟨0, Nat.zero_le _, rfl, rfl, by simpa [rowM] using hP⟩
          case round =>
            clear hP
            obtain ⟨j, hj, rfl, rfl, hP⟩ := hrel
            by_cases hjl : j < e.l t
            · have hjz : (j : Int) < (e.l t : Int) := by omega
              have hwr := hP.keeps.writes HW.out HB.out.2.1 HB.out.2.2
              obtain rfl : at' = some ⟨f.rb t, f.ro t, none⟩ := HAt.out.symm.trans (hwr.ra t r2 j hjl)
              obtain ⟨v1, v2⟩ := HD.out.v hin hkl (j := j) (by rw [Ht.out]; exact hjl)
              rw [Ht.out] at v1 v2
              obtain ⟨v, Hv⟩ : ∃ v, Aside (vvN e t j = v) := ⟨_, rfl⟩
              rw [Hv.out] at v1 v2
              have q4 := hwr.cv t r2 j hjl
              have q4b := hwr.cf t r2 j hjl
              rw [v1] at q4
              have hvz : (v : Int) < (d.n : Int) := by omega
              obtain ⟨p1, p3, p6, p11⟩ := hP.cells
              obtain ⟨_, x1, _, _⟩ := hP.ver v2
              obtain ⟨_, y1, _, y3⟩ := hP.ver hin
              have ff := (hP.row (by omega)).frozen (i * 4 + 3)
              have fp := hP.vw.frozen 11
              have l1 := (hP.row (by omega)).lt
              have l2 := hP.vw.lt
              have y3' : nxt d e i (p ++ rowM d e i t j) i = nextP (d.nx i) (p ++ rowM d e i t j) := by simp [nxt]
              rw [y3'] at y3
              obtain ⟨u, Hu⟩ : ∃ u, Aside (p ++ rowM d e i t j = u) := ⟨_, rfl⟩
              rw [Hu.out] at hP y3 p11
              obtain ⟨cx, Hcx⟩ : ∃ cx, Aside (nextP (d.nx i) u = cx) := ⟨_, rfl⟩
              rw [Hcx.out] at y3
              obtain ⟨ib, Hib⟩ : ∃ ib, Aside ((imp || (clashTo d e i || clashP (d.nx i) u)) = ib) := ⟨_, rfl⟩
              rw [Hib.out] at p11
              clear v1 y3' hwr
              by_cases hit : d.it v = d.it i
              · have hib : (d.it v != d.it i) = false := by simp [hit]
                have Hstep : Aside (p ++ rowM d e i t (j + 1) = u ++ [v]) := by
                  show _ = _
                  rw [rowM, Hv.out, if_pos hit, ← List.append_assoc, Hu.out]
                clear hit
                by_cases hc0 : 0 ≤ cx
                · go_wp2
                  go_quiet (fail)
                  go_wp2
                  go_roundg (e.l t - (j + 1))
                  case measure => go_light; omega
                  case rel => go_light; exact ⟨j + 1, by omega, rfl, by simp, by rw [Hstep.out]; exact ((hP.alloc _).drewN _).clash hnev v (by rw [Hcx.out]; exact hc0)⟩
                · go_wp2
                  go_quiet (fail)
                  go_wp2
                  go_roundg (e.l t - (j + 1))
                  case measure => go_light; omega
                  case rel => go_light; exact ⟨j + 1, by omega, rfl, by simp, by rw [Hstep.out]; exact ((hP.alloc _).drewN _).link hnev v (by rw [Hcx.out]; omega)⟩
              · have hib : (d.it v != d.it i) = true := by simp [hit]
                have Hstep : Aside (p ++ rowM d e i t (j + 1) = u) := by
                  show _ = _
                  rw [rowM, Hv.out, if_neg hit, List.append_nil, Hu.out]
                clear hit
                go_wp2
                go_quiet (fail)
                go_wp2
                go_roundg (e.l t - (j + 1))
                case measure => go_light; omega
                case rel => go_light; exact ⟨j + 1, by omega, rfl, by simp, by rw [Hstep.out]; exact (hP.alloc _).drewN _⟩
            · have hjz : ¬ (j : Int) < (e.l t : Int) := by omega
              obtain rfl : j = e.l t := by omega
              have Hstep : Aside (p ++ rowM d e i t (e.l t) = mTo d e i (k + 1)) := by show _ = _; rw [mTo, Hp.out, Ht.out]
              rw [Hstep.out] at hP
              go_wp2
              go_roundg (d.rl i - (k + 1))
              case measure => go_light; omega
              case rel => go_light; exact ⟨k + 1, by omega, rfl, by simp, hP⟩
        · have hkz : ¬ (k : Int) < (d.rl i : Int) := by omega
          obtain rfl : k = d.rl i := by omega
          have hfin : Ph1 w wr d e vb pv ra rc z (.slice (some ⟨vb, 0, none⟩) d.n vc) R (.slice wa e.n wc) imp (i + 1) [] :=
            ⟨hP.keeps, fun hp => (hP.row hp).congr (fun q _ => by simp only [vCols, quad]; rw [show mTo d e i (d.rl i) = mt d e i from rfl, nxt_next]), hP.vw.congr (fun q _ => by rw [clashTo_succ, show mTo d e i (d.rl i) = mt d e i from rfl]; simp [clashP])⟩
          go_wp2
          go_roundg (d.n - (i + 1))
          case measure => go_light; omega
          case rel => go_light; exact ⟨i + 1, by omega, rfl, by simp, hfin⟩
    · have hiz : ¬ (i : Int) < (d.n : Int) := by omega
      obtain rfl : i = d.n := by omega
      have hmk := run_make_row' (P := Try.prog) 33 4 (.bool false) 1 Try.underlying33 Try.info4 rfl .i64 .i64 d.n (by omega) (by omega)
      obtain ⟨p1, p3, p6, p11⟩ := hP.cells
      have l2 := hP.vw.lt
      have hP1 := hP.alloc (.cells (madeCells #[.bool false] d.n) 4)
      have hL0 := World.rowIs_made wr (.bool false) d.n 4
      have hlb : w.heap.size ≤ wr.heap.size := hP.keeps.size
      have hpv : pv < w.heap.size := HPV.out
      clear hP
      go_wp2
      clear p1 p3 p6 p11 hmk
      obtain ⟨lb, hlbe⟩ : ∃ lb, lb = wr.heap.size := ⟨_, rfl⟩
      rw [← hlbe] at hL0 hlb ⊢
      clear hlbe l2
      obtain ⟨wo, rfl⟩ : ∃ wo : World, wo = wr := ⟨_, rfl⟩
      have HN : Aside (∀ q, q < d.n → nextOf d e q < (d.n : Int)) := next_lt HD.out
      -- WHO IS LED
      go_loopg [92] d.n (fun g s92 wi => ∃ r : Nat, r ≤ d.n ∧ g = d.n - r ∧ s92 = .int .i64 (r : Int) ∧ Ph1 w wi d e vb pv ra rc z (.slice va d.n vc) R (.slice wa e.n wc) imp d.n [] ∧ wi.rowIs lb 4 d.n (fun j => .bool (ledTo (nextOf d e) r j)))
      case atStart => exact ⟨0, Nat.zero_le _, rfl, rfl, hP1, hL0.congr (fun j _ => by simp [ledTo])⟩
      case round =>
        clear hP1 hL0
        obtain ⟨r, hr, rfl, rfl, hP, hL⟩ := hrel
        by_cases hrn : r < d.n
        · have hrz : (r : Int) < (d.n : Int) := by omega
          obtain ⟨hva, hVO⟩ := HVA.out (by omega)
          subst hva
          have hvb : vb < w.heap.size := hVO.row.lt
          clear hVO
          obtain ⟨v0, v1, v2, v3⟩ := hP.ver hrn
          rw [nxt_end d e hrn] at v3
          have hlt := HN.out r hrn
          have ll := hL.lt
          obtain ⟨nx, Hnx⟩ : ∃ nx, Aside (nextOf d e r = nx) := ⟨_, rfl⟩
          rw [Hnx.out] at v3 hlt
          by_cases h0 : 0 ≤ nx
          · obtain ⟨q, rfl⟩ : ∃ q : Nat, nx = q := ⟨nx.toNat, by omega⟩
            have q2 := hL.cell (i := q) (by omega)
            have q3 := hL.frozen q
            go_wp2
            go_roundg (d.n - (r + 1))
            case measure => go_light; omega
            case rel =>
              go_light
              refine ⟨r + 1, by omega, rfl, by simp, (hP.setFar hlb (by show pv ≠ lb; omega) (fun _ => by show vb ≠ lb; omega) _).alloc _, ((hL.set q _).alloc _).congr (fun j _ => ?_)⟩
              rw [ledTo_succ, Hnx.out]
              by_cases g : j = q
              · subst g; simp
              · rw [if_neg g]
                have e2 : ¬ ((q : Int) = (j : Int)) := by omega
                simp [e2]
          · go_wp2
            go_roundg (d.n - (r + 1))
            case measure => go_light; omega
            case rel =>
              go_light
              refine ⟨r + 1, by omega, rfl, by simp, hP.alloc _, (hL.alloc _).congr (fun j _ => ?_)⟩
              rw [ledTo_succ, Hnx.out]
              have e2 : ¬ (nx = (j : Int)) := by omega
              simp [e2]
        · have hrz : ¬ (r : Int) < (d.n : Int) := by omega
          obtain rfl : r = d.n := by omega
          have HP3 : Aside (Ph3 w wr d (nextOf d e) vb pv lb ra rc z (.slice va d.n vc) (.slice wa e.n wc) (.bool (imp || clashTo d e d.n)) (itr (stepN (nextOf d e)) K) l0 R 0 R []) := Ph3.start hP hL HRR.out.1 HRR.out.2.1 HRR.out.2.2 hlb _
          obtain ⟨ib, HIB⟩ : ∃ ib, Aside ((imp || clashTo d e d.n) = ib) := ⟨_, rfl⟩
          rw [HIB.out] at HP3
          obtain ⟨N, HNN⟩ : ∃ N, Aside (nextOf d e = N) := ⟨_, rfl⟩
          rw [HNN.out] at HP3
          have hq1 : wr.cell? ⟨pv, 1, none⟩ = some (.slice va d.n vc) := HP3.out.vw.cell (i := 1) (by omega)
          clear hP hL
          go_wp2
          clear hq1
          have hpvlb : pv ≠ lb := by omega
          have HNlt : Aside (∀ q, q < d.n → N q < (d.n : Int)) := by rw [← HNN.out]; exact HN.out
          have HCHN : Aside (∀ i, i < d.n → ledTo N d.n i = false → N (itr (stepN N) K i) < 0) := by rw [← HNN.out]; exact HCH.out
          -- THE RUNS
          go_loopg [109] d.n (fun g s109 wi => ∃ (i : Nat) (R' : Value) (l : List (Value × Value × Value × Value)), i ≤ d.n ∧ g = d.n - i ∧ s109 = .int .i64 (i : Int) ∧ Ph3 w wi d N vb pv lb ra rc z (.slice va d.n vc) (.slice wa e.n wc) (.bool ib) (itr (stepN N) K) l0 R i R' l)
          case atStart => exact ⟨0, R, [], Nat.zero_le _, rfl, rfl, HP3.out⟩
          case round =>
            clear HP3
            obtain ⟨i, R', l, hi, rfl, rfl, hP⟩ := hrel
            by_cases hin : i < d.n
            · have hiz : (i : Int) < (d.n : Int) := by omega
              obtain ⟨hva, hVO⟩ := HVA.out (by omega)
              subst hva
              have hvb : vb < w.heap.size := hVO.row.lt
              have hvp := HNE.out (by omega)
              clear hVO
              obtain ⟨v0, v1, v2, v3⟩ := hP.ver hin
              have q1 := hP.led.cell hin
              have l1 := hP.led.lt
              have l2 := hP.vw.lt
              have l3 := (hP.row (by omega)).lt
              obtain ⟨ar, HAr⟩ : ∃ ar, Aside (ra i = ar) := ⟨_, rfl⟩
              rw [HAr.out] at v2
              by_cases hled : ledTo N d.n i = true
              · have HS := hP.skip hled
                rw [hled] at q1
                clear hP
                go_wp2
                go_roundg (d.n - (i + 1))
                case measure => go_light; omega
                case rel => go_light; exact ⟨i + 1, R', l, by omega, rfl, by simp, HS.alloc _⟩
              · have hled' : ledTo N d.n i = false := by simpa using hled
                have HLED : Aside (ledTo N d.n i = false) := hled'
                rw [hled'] at q1
                clear hled hled'
                go_wp2
                clear v0 v1 v2 v3 q1 l1 l2 l3
                have hP0 := hP.alloc (.cells #[.int .i32 (d.wr i), .int .i32 (d.it i), .slice ar (d.rl i) (rc i), .int .i32 (N i)] 46)
                have ver1 : (wr.alloc (.cells #[.int .i32 (d.wr i), .int .i32 (d.it i), .slice ar (d.rl i) (rc i), .int .i32 (N i)] 46)).cell? ⟨wr.heap.size, 1, none⟩ = some (.int .i32 (d.it i)) := by simp
                obtain ⟨vx, Hvx⟩ : ∃ vx, Aside (wr.heap.size = vx) := ⟨_, rfl⟩
                have hvx : w.heap.size ≤ vx := by rw [← Hvx.out]; exact hP.keeps.size
                have hvR : R'.ownBlock ≠ some vx := fun e => by have := hP.block_lt e; have := Hvx.out; omega
                clear hP
                rw [Hvx.out] at ver1 ⊢
                obtain ⟨W0, HW0⟩ : ∃ W0, Aside (wr.alloc (.cells #[.int .i32 (d.wr i), .int .i32 (d.it i), .slice ar (d.rl i) (rc i), .int .i32 (N i)] 46) = W0) := ⟨_, rfl⟩
                rw [HW0.out] at hP0 ver1 ⊢
                have p1 : W0.cell? ⟨pv, 1, none⟩ = some (.slice (some ⟨vb, 0, none⟩) d.n vc) := hP0.vw.cell (i := 1) (by omega)
                go_loopg [13] K (fun g s13 wi => wi = W0 ∧ ∃ k : Nat, k ≤ K ∧ g = K - k ∧ s13 = .int .i32 (itr (stepN N) k i : Int))
                case atStart => exact ⟨rfl, 0, Nat.zero_le _, rfl, rfl⟩
                case round =>
                  obtain ⟨rfl, k, hk, rfl, rfl⟩ := hrel
                  have hy := itr_lt HNlt.out k i hin
                  obtain ⟨y, Hy⟩ : ∃ y, Aside (itr (stepN N) k i = y) := ⟨_, rfl⟩
                  rw [Hy.out] at hy ⊢
                  have hyz : (y : Int) < (d.n : Int) := by omega
                  obtain ⟨v0, v1, v2, v3⟩ := hP0.ver hy
                  obtain ⟨ay, HAy⟩ : ∃ ay, Aside (ra y = ay) := ⟨_, rfl⟩
                  rw [HAy.out] at v2
                  have hlt := HNlt.out y hy
                  by_cases hn0 : 0 ≤ N y
                  · obtain ⟨nx, hnx⟩ : ∃ nx : Nat, N y = nx := ⟨(N y).toNat, by omega⟩
                    have HK : Aside (k < K ∧ itr (stepN N) (k + 1) i = nx) := by
                      refine ⟨?_, ?_⟩
                      · have := HCHN.out i hin HLED.out
                        by_cases g : k = K
                        · subst g; rw [Hy.out] at this; omega
                        · omega
                      · rw [itr_succ, Hy.out, stepN, if_pos hn0]; omega
                    rw [hnx] at v3 hlt
                    clear hP0 hn0 hnx
                    go_wp2
                    go_roundg (K - (k + 1))
                    case measure => go_light; have := HK.out.1; omega
                    case rel => go_light; exact ⟨rfl, k + 1, HK.out.1, rfl, by rw [HK.out.2]⟩
                  · have hn1 : N y < 0 := by omega
                    have HE : Aside (itr (stepN N) K i = y) := by
                      show _ = _
                      rw [itr_end (k := k) (by rw [Hy.out]; exact hn1) hk, Hy.out]
                    clear hn0
                    have HW : Aside (w.heap.size ≤ vx ∧ R'.ownBlock ≠ some vx) := ⟨hvx, hvR⟩
                    clear hvx hvR hlt
                    obtain ⟨i0, hi0, hzz⟩ := Option.map_eq_some_iff.1 Try.info56
                    simp only [Prod.mk.injEq] at hzz
                    obtain ⟨hz0, hs0, hb0⟩ := hzz
                    have HI0 : Aside (Try.prog.info? 56 = some i0 ∧ i0.zero = some (.agg #[.int .i32 0, .int .i32 0, .int .i32 0, .slice none 0 0]) ∧ i0.size = 4 ∧ i0.bytes = 40) := ⟨hi0, hz0, hs0, hb0⟩
                    clear hi0 hz0 hs0 hb0
                    have hwr : IntKind.i32.wrap (i : Int) = (i : Int) := by rw [IntKind.wrap_i32]; omega
                    by_cases hrl : d.rl y = 0
                    · have HRL0 : Aside (d.rl y = 0) := hrl
                      have t1 : ((d.rl y : Int) == 0) = true := by simp [hrl]
                      clear hrl
                      by_cases hwy : 0 ≤ d.wr y
                      · have p3 : wr.cell? ⟨pv, 3, none⟩ = some R' := hP0.vw.cell (i := 3) (by omega)
                        have f3 := hP0.vw.frozen 3
                        have l3 := hP0.vw.lt
                        have lx := World.block_lt_of_cell? _ _ ver1
                        have hPA := hP0.alloc (.cells #[.int .i32 (d.wr y)] 21)
                        have hA0 : (wr.alloc (.cells #[.int .i32 (d.wr y)] 21)).cell? ⟨wr.heap.size, 0, none⟩ = some (.int .i32 (d.wr y)) := by simp
                        have hA1 : (wr.alloc (.cells #[.int .i32 (d.wr y)] 21)).cell? ⟨vx, 1, none⟩ = some (.int .i32 (d.it i)) := by
                          rw [World.cell?_of_block (w := wr) (Go.Deep.blk_alloc_lt _ _ _ lx)]; exact ver1
                        have hA2 : w.heap.size ≤ wr.heap.size ∧ R'.ownBlock ≠ some wr.heap.size := ⟨hP0.keeps.size, fun e => by have := hP0.block_lt e; omega⟩
                        have HA : Aside ((wr.alloc (.cells #[.int .i32 (d.wr y)] 21)).cell? ⟨wr.heap.size, 0, none⟩ = some (.int .i32 (d.wr y)) ∧ (wr.alloc (.cells #[.int .i32 (d.wr y)] 21)).cell? ⟨vx, 1, none⟩ = some (.int .i32 (d.it i)) ∧ w.heap.size ≤ wr.heap.size ∧ R'.ownBlock ≠ some wr.heap.size) := ⟨hA0, hA1, hA2⟩
                        clear hP0 hA0 hA1 hA2
                        go_wp2_with fail
                        obtain ⟨sb, Hsb⟩ : ∃ sb, Aside (wr.heap.size = sb) := ⟨_, rfl⟩
                        obtain ⟨W5, HW5⟩ : ∃ W5, Aside (wr.alloc (.cells #[.int .i32 (d.wr y)] 21) = W5) := ⟨_, rfl⟩
                        rw [HW5.out] at hPA HA ⊢
                        rw [Hsb.out] at HA ⊢
                        have hS : SinkIs w.heap.size W5 R' d ra rc (itr (stepN N) K i) (.slice (some ⟨sb, 0, none⟩) 1 1) := by
                          rw [HE.out]; exact .inr ⟨HRL0.out, hwy, sb, rfl, HA.out.2.2.1, HA.out.2.2.2, HA.out.1⟩
                        have q3 : W5.cell? ⟨pv, 3, none⟩ = some R' := hPA.vw.cell (i := 3) (by omega)
                        have g3 := hPA.vw.frozen 3
                        have m3 := hPA.vw.lt
                        have vr1 := HA.out.2.1
                        have mx := World.block_lt_of_cell? _ _ vr1
                        have HPush := Ph3.push1 hPA HLED.out hpv (fun _ => hvb) (fun _ => hvp) (Ne.symm hpvlb) hS (by rw [HE.out]) hl0 hn hin
                        clear hPA hS p3 f3 l3 lx ver1 v0 v1 v2 v3 p1 
                        go_region_law (refine step_append_lies _ rfl (.tmp 166) (.tmp 174) 41 rfl 0 56 i0 _ 4 40 Try.underlying41 HI0.out.1 HI0.out.2.1 HI0.out.2.2.1 HI0.out.2.2.2 rfl (by decide) R' (l0 ++ l).length (cells4 (l0 ++ l)) (by simp [Act.eval]) HPush.out.own ⟨W5.heap.size, 0, none⟩ 1 1 [.int .i32 (d.it i), .int .i32 (i : Int), .int .i32 (y : Int), .slice (some ⟨sb, 0, none⟩) 1 1] (by simp [Act.eval]) rfl HPush.out.news HPush.out.one (by decide) HPush.out.b1 HPush.out.b2 (Nat.zero_le _) (W5.heap.size + 1) HPush.out.size ?_; intro g cap w1 hown1 hgrow hat hlt; have c3 := HPush.out.c3 w1 hgrow; have f3 := HPush.out.f3 w1 hgrow)
                        all_goals
                          have HZ := HPush.out.done w1 g cap hown1 hgrow hat
                          rw [List.length_append] at HZ
                          go_wp2
                          go_roundg (d.n - (i + 1))
                          case measure => go_light; omega
                          case rel => go_light; exact ⟨i + 1, _, _, by omega, rfl, by simp, HZ⟩
                      · have hS : SinkIs w.heap.size wr R' d ra rc (itr (stepN N) K i) (.slice ay (d.rl y) (rc y)) := by
                          rw [HE.out, ← HAy.out]; exact .inl ⟨fun h => hwy h.2, rfl⟩
                        have hwy' : d.wr y < 0 := by omega
                        have p3 : wr.cell? ⟨pv, 3, none⟩ = some R' := hP0.vw.cell (i := 3) (by omega)
                        have f3 := hP0.vw.frozen 3
                        have l3 := hP0.vw.lt
                        have lx := World.block_lt_of_cell? _ _ ver1
                        have HPush := Ph3.push1 hP0 HLED.out hpv (fun _ => hvb) (fun _ => hvp) (Ne.symm hpvlb) hS (by rw [HE.out]) hl0 hn hin
                        clear hP0 hS
                        go_wp2_with fail
                        go_region_law (refine step_append_lies _ rfl (.tmp 166) (.tmp 174) 41 rfl 0 56 i0 _ 4 40 Try.underlying41 HI0.out.1 HI0.out.2.1 HI0.out.2.2.1 HI0.out.2.2.2 rfl (by decide) R' (l0 ++ l).length (cells4 (l0 ++ l)) (by simp [Act.eval]) HPush.out.own ⟨wr.heap.size, 0, none⟩ 1 1 [.int .i32 (d.it i), .int .i32 (i : Int), .int .i32 (y : Int), .slice ay (d.rl y) (rc y)] (by simp [Act.eval]) rfl HPush.out.news HPush.out.one (by decide) HPush.out.b1 HPush.out.b2 (Nat.zero_le _) (wr.heap.size + 1) HPush.out.size ?_; intro g cap w1 hown1 hgrow hat hlt; have c3 := HPush.out.c3 w1 hgrow; have f3 := HPush.out.f3 w1 hgrow)
                        all_goals
                          have HZ := HPush.out.done w1 g cap hown1 hgrow hat
                          rw [List.length_append] at HZ
                          go_wp2
                          go_roundg (d.n - (i + 1))
                          case measure => go_light; omega
                          case rel => go_light; exact ⟨i + 1, _, _, by omega, rfl, by simp, HZ⟩
                    · have t1 : ((d.rl y : Int) == 0) = false := by simp; omega
                      have hS : SinkIs w.heap.size wr R' d ra rc (itr (stepN N) K i) (.slice ay (d.rl y) (rc y)) := by
                        rw [HE.out, ← HAy.out]; exact .inl ⟨fun h => hrl h.1, rfl⟩
                      have p3 : wr.cell? ⟨pv, 3, none⟩ = some R' := hP0.vw.cell (i := 3) (by omega)
                      have f3 := hP0.vw.frozen 3
                      have l3 := hP0.vw.lt
                      have lx := World.block_lt_of_cell? _ _ ver1
                      have HPush := Ph3.push1 hP0 HLED.out hpv (fun _ => hvb) (fun _ => hvp) (Ne.symm hpvlb) hS (by rw [HE.out]) hl0 hn hin
                      clear hP0 hS
                      go_wp2_with fail
                      go_region_law (refine step_append_lies _ rfl (.tmp 166) (.tmp 174) 41 rfl 0 56 i0 _ 4 40 Try.underlying41 HI0.out.1 HI0.out.2.1 HI0.out.2.2.1 HI0.out.2.2.2 rfl (by decide) R' (l0 ++ l).length (cells4 (l0 ++ l)) (by simp [Act.eval]) HPush.out.own ⟨wr.heap.size, 0, none⟩ 1 1 [.int .i32 (d.it i), .int .i32 (i : Int), .int .i32 (y : Int), .slice ay (d.rl y) (rc y)] (by simp [Act.eval]) rfl HPush.out.news HPush.out.one (by decide) HPush.out.b1 HPush.out.b2 (Nat.zero_le _) (wr.heap.size + 1) HPush.out.size ?_; intro g cap w1 hown1 hgrow hat hlt; have c3 := HPush.out.c3 w1 hgrow; have f3 := HPush.out.f3 w1 hgrow)
                      all_goals
                        have HZ := HPush.out.done w1 g cap hown1 hgrow hat
                        rw [List.length_append] at HZ
                        go_wp2
                        go_roundg (d.n - (i + 1))
                        case measure => go_light; omega
                        case rel => go_light; exact ⟨i + 1, _, _, by omega, rfl, by simp, HZ⟩
            · have hiz : ¬ (i : Int) < (d.n : Int) := by omega
              obtain rfl : i = d.n := by omega
              go_wp2
              go_end0
              exact ⟨rfl, hP.keeps, by rw [HNN.out]; exact hP.row, R', l, by rw [HIB.out]; exact hP.vw, hP.runs, by rw [HNN.out]; exact hP.fresh⟩
end Go.Proofs.Qxb6601390a
