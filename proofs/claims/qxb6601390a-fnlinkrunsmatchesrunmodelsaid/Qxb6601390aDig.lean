/-
  newDigraph (58): the walk.
-/
import Derived.Test.Qxb6601390aArcs
import Derived.Test.Qxb6601390aPlain
import Derived.Test.Qxb6601390aCopy
namespace Go.Proofs.Qxb6601390a
open Go.RowKit Plain

theorem Try.info3 : (Try.prog.info? 3).map (fun i => (i.zero, i.size, i.bytes)) = some (some (.int .i64 0), 1, 8) := by kernel_rfl
theorem Try.info21 : (Try.prog.info? 21).map (fun i => (i.zero, i.size, i.bytes)) = some (some (.int .i32 0), 1, 4) := by kernel_rfl

/-- The digraph variable's own three cells. -/
def dCell (a b c : Value) (i : Nat) : Value := match i with | 0 => a | 1 => b | _ => c

/-- WHAT HOLDS IN newDigraph: N is the result's cell, N + 1 the row 'start', N + 2 the variable d. -/
structure Dig (w wr : World) (n : Nat) (S : Nat → Int) (hv iv : Value) : Prop where
  since : w.Since w.heap.size wr
  res : wr.rowIs w.heap.size 72 3 (fun _ => .slice none 0 0)
  start : wr.rowIs (w.heap.size + 1) 3 (n + 1) (fun v => .int .i64 (S v))
  dd : wr.rowIs (w.heap.size + 1 + 1) 72 3 (dCell (.slice (some ⟨w.heap.size + 1, 0, none⟩) (n + 1) (n + 1)) hv iv)

theorem Dig.cell0 {w wr : World} {n : Nat} {S : Nat → Int} {hv iv : Value} (h : Dig w wr n S hv iv) : wr.cell? ⟨w.heap.size + 1 + 1, 0, none⟩ = some (.slice (some ⟨w.heap.size + 1, 0, none⟩) (n + 1) (n + 1)) := h.dd.cell (i := 0) (by omega)
theorem Dig.cell1 {w wr : World} {n : Nat} {S : Nat → Int} {hv iv : Value} (h : Dig w wr n S hv iv) : wr.cell? ⟨w.heap.size + 1 + 1, 1, none⟩ = some hv := h.dd.cell (i := 1) (by omega)
theorem Dig.cell2 {w wr : World} {n : Nat} {S : Nat → Int} {hv iv : Value} (h : Dig w wr n S hv iv) : wr.cell? ⟨w.heap.size + 1 + 1, 2, none⟩ = some iv := h.dd.cell (i := 2) (by omega)

theorem cell_three {w : World} {a : Addr} {v : Value} (h : w.cell? a = some v) (o1 o2 o3 : Obj) : (((w.alloc o1).alloc o2).alloc o3).cell? a = some v := by
  have hb := World.block_lt_of_cell? _ _ h
  rw [World.cell?_alloc_lt _ _ _ (by simp; omega), World.cell?_alloc_lt _ _ _ (by simp; omega), World.cell?_alloc_lt _ _ _ hb, h]

theorem dig_start (w : World) (n : Nat) :
    Dig w (((w.alloc (.cells #[.slice none 0 0, .slice none 0 0, .slice none 0 0] 72)).alloc (.cells (madeCells #[.int .i64 0] (n + 1)) 3)).alloc (.cells #[.slice (some ⟨w.heap.size + 1, 0, none⟩) (n + 1) (n + 1), .slice none 0 0, .slice none 0 0] 72))
      n (S1 []) (.slice none 0 0) (.slice none 0 0) := by
  have s1 := (World.Since.refl w.heap.size w).alloc (Nat.le_refl _) (.cells #[.slice none 0 0, .slice none 0 0, .slice none 0 0] 72)
  have s2 := s1.alloc s1.size (.cells (madeCells #[.int .i64 0] (n + 1)) 3)
  have s3 := s2.alloc s2.size (.cells #[.slice (some ⟨w.heap.size + 1, 0, none⟩) (n + 1) (n + 1), .slice none 0 0, .slice none 0 0] 72)
  have r0 := World.rowIs_alloc w #[.slice none 0 0, .slice none 0 0, .slice none 0 0] 72 (fun _ => .slice none 0 0) (fun i hi => by
    have : i = 0 ∨ i = 1 ∨ i = 2 := by simp at hi; omega
    rcases this with rfl | rfl | rfl <;> rfl)
  have r1 := World.rowIs_made (w.alloc (.cells #[.slice none 0 0, .slice none 0 0, .slice none 0 0] 72)) (.int .i64 0) (n + 1) 3
  have r2 := World.rowIs_alloc ((w.alloc (.cells #[.slice none 0 0, .slice none 0 0, .slice none 0 0] 72)).alloc (.cells (madeCells #[.int .i64 0] (n + 1)) 3)) #[.slice (some ⟨w.heap.size + 1, 0, none⟩) (n + 1) (n + 1), .slice none 0 0, .slice none 0 0] 72
    (dCell (.slice (some ⟨w.heap.size + 1, 0, none⟩) (n + 1) (n + 1)) (.slice none 0 0) (.slice none 0 0)) (fun i hi => by
    have : i = 0 ∨ i = 1 ∨ i = 2 := by simp at hi; omega
    rcases this with rfl | rfl | rfl <;> rfl)
  refine ⟨s3, (r0.alloc _).alloc _, ?_, ?_⟩
  · have := (r1.alloc (.cells #[.slice (some ⟨w.heap.size + 1, 0, none⟩) (n + 1) (n + 1), .slice none 0 0, .slice none 0 0] 72)).congr (g := fun v => .int .i64 (S1 [] v)) (fun v _ => by cases v <;> simp [S1, cnt, pick])
    simpa using this
  · simpa using r2

/-- A new block. -/
theorem Dig.alloc {w wr : World} {n : Nat} {S : Nat → Int} {hv iv : Value} (h : Dig w wr n S hv iv) (o : Obj) : Dig w (wr.alloc o) n S hv iv :=
  ⟨h.since.alloc h.since.size _, h.res.alloc _, h.start.alloc _, h.dd.alloc _⟩
theorem Dig.drew {w wr : World} {n : Nat} {S : Nat → Int} {hv iv : Value} (h : Dig w wr n S hv iv) : Dig w wr.drew n S hv iv :=
  ⟨h.since.drew, h.res.drew, h.start.drew, h.dd.drew⟩
/-- A store into 'start'. -/
theorem Dig.set {w wr : World} {n : Nat} {S S' : Nat → Int} {hv iv : Value} (h : Dig w wr n S hv iv) (v : Nat) (x : Int) (e : ∀ u, u < n + 1 → (if u = v then x else S u) = S' u) : Dig w (wr.setCell ⟨w.heap.size + 1, v, none⟩ (.int .i64 x)) n S' hv iv :=
  ⟨h.since.setCell (by show _ ≤ w.heap.size + 1; omega) _, h.res.setOther (by show _ ≠ w.heap.size + 1; omega) _,
   (h.start.set v _).congr (fun u hu => by rw [← e u hu]; by_cases q : u = v <;> simp [q]), h.dd.setOther (by show _ ≠ w.heap.size + 1; omega) _⟩
/-- A store elsewhere, in new memory. -/
theorem Dig.setFar {w wr : World} {n : Nat} {S : Nat → Int} {hv iv : Value} (h : Dig w wr n S hv iv) (a : Addr) (ha : w.heap.size + 1 + 1 < a.block) (v : Value) : Dig w (wr.setCell a v) n S hv iv :=
  ⟨h.since.setCell (by omega) _, h.res.setOther (by omega) _, h.start.setOther (by omega) _, h.dd.setOther (by omega) _⟩

theorem length_flatTo (L : Nat → Nat) (T H I : Nat → Nat → Int) (r : Nat) : (flatTo L T H I r).length = sumTo L r := by
  induction r with
  | zero => rfl
  | succ r ih => simp [flatTo, sumTo, ih, length_rowTo]
theorem cnt_le (l : List Arc) (v : Nat) : cnt l v ≤ l.length := List.length_filter_le _ _
theorem S1_bd (l : List Arc) (v : Nat) : 0 ≤ S1 l v ∧ S1 l v ≤ (l.length : Int) := by
  cases v with
  | zero => simp [S1]
  | succ u => have := cnt_le l u; simp only [S1]; omega

theorem S2_bd (l : List Arc) (hl : l.length ≤ 1048576) (k v : Nat) : 0 ≤ S2 l k v ∧ S2 l k v ≤ 1048576 := by
  have h1 := S1_bd l v
  have h2 := cum_le l v
  simp only [S2]
  split <;> omega
theorem Dig.congr {w wr : World} {n : Nat} {S S' : Nat → Int} {hv iv : Value} (h : Dig w wr n S hv iv) (e : ∀ u, u < n + 1 → S u = S' u) : Dig w wr n S' hv iv :=
  ⟨h.since, h.res, h.start.congr (fun u hu => by rw [e u hu]), h.dd⟩

/-- .. and in the placing loop: the rows heads (bh) and items (bh + 1). -/
structure Dig3 (w wr : World) (n m bh : Nat) (S Hs Is : Nat → Int) : Prop where
  dig : Dig w wr n S (.slice (some ⟨bh, 0, none⟩) m m) (.slice (some ⟨bh + 1, 0, none⟩) m m)
  hb : w.heap.size + 1 + 1 < bh
  heads : wr.rowIs bh 21 m (fun q => .int .i32 (Hs q))
  items : wr.rowIs (bh + 1) 21 m (fun q => .int .i32 (Is q))

theorem dig3_start {w wr : World} {n m : Nat} {S : Nat → Int} {hv iv : Value} (h : Dig w wr n S hv iv) :
    Dig3 w ((((wr.setCell ⟨w.heap.size + 1 + 1, 1, none⟩ (.slice (some ⟨wr.heap.size, 0, none⟩) m m)).setCell ⟨w.heap.size + 1 + 1, 2, none⟩ (.slice (some ⟨wr.heap.size + 1, 0, none⟩) m m)).alloc
      (.cells (madeCells #[.int .i32 0] m) 21)).alloc (.cells (madeCells #[.int .i32 0] m) 21)) n m wr.heap.size S (fun _ => 0) (fun _ => 0) := by
  have hl := h.dd.lt
  have d2 : Dig w ((wr.setCell ⟨w.heap.size + 1 + 1, 1, none⟩ (.slice (some ⟨wr.heap.size, 0, none⟩) m m)).setCell ⟨w.heap.size + 1 + 1, 2, none⟩ (.slice (some ⟨wr.heap.size + 1, 0, none⟩) m m)) n S (.slice (some ⟨wr.heap.size, 0, none⟩) m m) (.slice (some ⟨wr.heap.size + 1, 0, none⟩) m m) := by
    refine ⟨(h.since.setCell (by show _ ≤ w.heap.size + 1 + 1; omega) _).setCell (by show _ ≤ w.heap.size + 1 + 1; omega) _, (h.res.setOther (by show _ ≠ w.heap.size + 1 + 1; omega) _).setOther (by show _ ≠ w.heap.size + 1 + 1; omega) _,
      (h.start.setOther (by show _ ≠ w.heap.size + 1 + 1; omega) _).setOther (by show _ ≠ w.heap.size + 1 + 1; omega) _, ((h.dd.set 1 _).set 2 _).congr (fun i hi => ?_)⟩
    have : i = 0 ∨ i = 1 ∨ i = 2 := by omega
    rcases this with rfl | rfl | rfl <;> rfl
  have e1 : ((wr.setCell ⟨w.heap.size + 1 + 1, 1, none⟩ (.slice (some ⟨wr.heap.size, 0, none⟩) m m)).setCell ⟨w.heap.size + 1 + 1, 2, none⟩ (.slice (some ⟨wr.heap.size + 1, 0, none⟩) m m)).heap.size = wr.heap.size := by simp
  have r1 := World.rowIs_made ((wr.setCell ⟨w.heap.size + 1 + 1, 1, none⟩ (.slice (some ⟨wr.heap.size, 0, none⟩) m m)).setCell ⟨w.heap.size + 1 + 1, 2, none⟩ (.slice (some ⟨wr.heap.size + 1, 0, none⟩) m m)) (.int .i32 0) m 21
  have r2 := World.rowIs_made (((wr.setCell ⟨w.heap.size + 1 + 1, 1, none⟩ (.slice (some ⟨wr.heap.size, 0, none⟩) m m)).setCell ⟨w.heap.size + 1 + 1, 2, none⟩ (.slice (some ⟨wr.heap.size + 1, 0, none⟩) m m)).alloc (.cells (madeCells #[.int .i32 0] m) 21)) (.int .i32 0) m 21
  rw [e1] at r1
  refine ⟨(d2.alloc _).alloc _, hl, r1.alloc _, ?_⟩
  have e2 : (((wr.setCell ⟨w.heap.size + 1 + 1, 1, none⟩ (.slice (some ⟨wr.heap.size, 0, none⟩) m m)).setCell ⟨w.heap.size + 1 + 1, 2, none⟩ (.slice (some ⟨wr.heap.size + 1, 0, none⟩) m m)).alloc (.cells (madeCells #[.int .i32 0] m) 21)).heap.size = wr.heap.size + 1 := by simp
  rw [e2] at r2
  exact r2

theorem Dig3.congr {w wr : World} {n m bh : Nat} {S S' Hs Is : Nat → Int} (h : Dig3 w wr n m bh S Hs Is) (e : ∀ u, u < n + 1 → S u = S' u) : Dig3 w wr n m bh S' Hs Is :=
  ⟨h.dig.congr e, h.hb, h.heads, h.items⟩

/-- ONE ARC IS PLACED: the block of the loop's own variable; heads, items, start. -/
theorem dig3_step {w wr : World} {n m bh : Nat} {S S' Hs Is : Nat → Int} (h : Dig3 w wr n m bh S Hs Is) (p t : Nat) (x y z : Int) (e : ∀ u, u < n + 1 → (if u = t then z else S u) = S' u) :
    Dig3 w (((wr.setCell ⟨bh, p, none⟩ (.int .i32 x)).setCell ⟨bh + 1, p, none⟩ (.int .i32 y)).setCell ⟨w.heap.size + 1, t, none⟩ (.int .i64 z)) n m bh S' (fun q => if q = p then x else Hs q) (fun q => if q = p then y else Is q) := by
  have hb := h.hb
  refine ⟨((h.dig.setFar ⟨bh, p, none⟩ hb _).setFar ⟨bh + 1, p, none⟩ (by show _ < bh + 1; omega) _).set t z e, hb,
    (((h.heads.set p _).setOther (by show bh ≠ bh + 1; omega) _).setOther (by show bh ≠ w.heap.size + 1; omega) _).congr (fun q _ => by by_cases k : q = p <;> simp [k]),
    (((h.items.setOther (by show bh + 1 ≠ bh; omega) _).set p _).setOther (by show bh + 1 ≠ w.heap.size + 1; omega) _).congr (fun q _ => by by_cases k : q = p <;> simp [k])⟩
theorem Dig3.alloc {w wr : World} {n m bh : Nat} {S Hs Is : Nat → Int} (h : Dig3 w wr n m bh S Hs Is) (o : Obj) : Dig3 w (wr.alloc o) n m bh S Hs Is :=
  ⟨h.dig.alloc _, h.hb, h.heads.alloc _, h.items.alloc _⟩
theorem Dig3.drew {w wr : World} {n m bh : Nat} {S Hs Is : Nat → Int} (h : Dig3 w wr n m bh S Hs Is) : Dig3 w wr.drew n m bh S Hs Is :=
  ⟨h.dig.drew, h.hb, h.heads.drew, h.items.drew⟩

/-- Behind 'copy(start[1:], start[:n])'. -/
def S4 (all : List Arc) (n v : Nat) : Int := if v = 0 then S3 all all n 0 else (cum all v : Int)
theorem dig3_copied {w wr w' : World} {n m bh : Nat} {all : List Arc} {Hs Is : Nat → Int} (h : Dig3 w wr n m bh (S3 all all n) Hs Is) (o : OnlyRow wr.drew w' (w.heap.size + 1))
    (r : w'.rowIs (w.heap.size + 1) 3 (n + 1) (copied (fun v => .int .i64 (S3 all all n v)) (fun v => .int .i64 (S3 all all n v)) 1 n)) : Dig3 w w' n m bh (S4 all n) Hs Is := by
  have hb := h.hb
  refine ⟨⟨o.since h.dig.since.drew (by omega), h.dig.res.of_block (o.block _ (by omega)), r.congr (fun v hv => ?_), h.dig.dd.of_block (o.block _ (by omega))⟩, hb, h.heads.of_block (o.block _ (by omega)), h.items.of_block (o.block _ (by omega))⟩
  simp only [copied, S4]
  by_cases e : v = 0
  · subst e; simp
  · rw [if_pos (by omega), if_neg e, S3_end all n (v - 1) (by omega), show v - 1 + 1 = v by omega]

theorem dig3_copied0 {w wr w' : World} {m bh : Nat} {all : List Arc} {Hs Is : Nat → Int} (h : Dig3 w wr 0 m bh (S3 all all 0) Hs Is) (o : OnlyRow wr.drew w' (w.heap.size + 1))
    (r : w'.rowIs (w.heap.size + 1) 3 (0 + 1) (copied (fun v => .int .i64 (S3 all all 0 v)) (fun v => .int .i64 (S3 all all 0 v)) 0 0)) : Dig3 w w' 0 m bh (S4 all 0) Hs Is := by
  have hb := h.hb
  refine ⟨⟨o.since h.dig.since.drew (by omega), h.dig.res.of_block (o.block _ (by omega)), r.congr (fun v hv => ?_), h.dig.dd.of_block (o.block _ (by omega))⟩, hb, h.heads.of_block (o.block _ (by omega)), h.items.of_block (o.block _ (by omega))⟩
  obtain rfl : v = 0 := by omega
  simp [copied, S4]

/-- What the heads, the items hold. -/
def headAt (all : List Arc) (n q : Nat) : Int := (((bucket all n)[q]?).map (·.2.1)).getD 0
def itemAt (all : List Arc) (n q : Nat) : Int := (((bucket all n)[q]?).map (·.2.2)).getD 0

/-- WHAT newDigraph LEAVES: the digraph of the arcs 'all', in new memory. -/
structure DigAt (w : World) (n : Nat) (all : List Arc) (sb hb ib : Nat) : Prop where
  start : w.rowIs sb 3 (n + 1) (fun v => .int .i64 (cum all v))
  heads : w.rowIs hb 21 all.length (fun q => .int .i32 (headAt all n q))
  items : w.rowIs ib 21 all.length (fun q => .int .i32 (itemAt all n q))
def digV (n : Nat) (all : List Arc) (sb hb ib : Nat) : Value :=
  .agg #[.slice (some ⟨sb, 0, none⟩) (n + 1) (n + 1), .slice (some ⟨hb, 0, none⟩) all.length all.length, .slice (some ⟨ib, 0, none⟩) all.length all.length]
def DigMade (w w' : World) (e : Ending) (n : Nat) (all : List Arc) : Prop :=
  ∃ sb hb ib, e = .returned (digV n all sb hb ib) ∧ w.Since w.heap.size w' ∧ DigAt w' n all sb hb ib ∧ w.heap.size ≤ sb ∧ w.heap.size ≤ hb ∧ w.heap.size ≤ ib

theorem dig_end {w w4 : World} {n m bh : Nat} {all : List Arc} {Hs Is : Nat → Int} (h : Dig3 w w4 n m bh (S4 all n) Hs Is) (hr : InR all n) (hm : cum all n = m) (p1 : Placed all (·.2.1) all Hs) (p2 : Placed all (·.2.2) all Is)
    {e : Ending} (he : e = .returned (.agg #[.slice (some ⟨w.heap.size + 1, 0, none⟩) (n + 1) (n + 1), .slice (some ⟨bh, 0, none⟩) m m, .slice (some ⟨bh + 1, 0, none⟩) m m])) :
    DigMade w ((((w4.setCell ⟨w.heap.size + 1, 0, none⟩ (.int .i64 0)).setCell ⟨w.heap.size, 0, none⟩ (.slice (some ⟨w.heap.size + 1, 0, none⟩) (n + 1) (n + 1))).setCell ⟨w.heap.size, 1, none⟩ (.slice (some ⟨bh, 0, none⟩) m m)).setCell ⟨w.heap.size, 2, none⟩ (.slice (some ⟨bh + 1, 0, none⟩) m m)) e n all := by
  have hb := h.hb
  have hl : all.length = m := by rw [← cum_all all n hr, hm]
  have d := h.dig
  subst hl
  refine ⟨w.heap.size + 1, bh, bh + 1, he, (((d.since.setCell (by show _ ≤ w.heap.size + 1; omega) _).setCell (Nat.le_refl _) _).setCell (Nat.le_refl _) _).setCell (Nat.le_refl _) _, ⟨?_, ?_, ?_⟩, by omega, by omega, by omega⟩
  · refine (((((d.start.set 0 _).setOther (by show w.heap.size + 1 ≠ w.heap.size; omega) _).setOther (by show w.heap.size + 1 ≠ w.heap.size; omega) _).setOther (by show w.heap.size + 1 ≠ w.heap.size; omega) _)).congr (fun v _ => ?_)
    by_cases e : v = 0
    · subst e; simp [cum]
    · simp [e, S4]
  · refine (((((h.heads.setOther (by show bh ≠ w.heap.size + 1; omega) _).setOther (by show bh ≠ w.heap.size; omega) _).setOther (by show bh ≠ w.heap.size; omega) _).setOther (by show bh ≠ w.heap.size; omega) _)).congr (fun q hq => ?_)
    rw [placed_all p1 q (n := n) (by omega), headAt]
  · refine (((((h.items.setOther (by show bh + 1 ≠ w.heap.size + 1; omega) _).setOther (by show bh + 1 ≠ w.heap.size; omega) _).setOther (by show bh + 1 ≠ w.heap.size; omega) _).setOther (by show bh + 1 ≠ w.heap.size; omega) _)).congr (fun q hq => ?_)
    rw [placed_all p2 q (n := n) (by omega), itemAt]

set_option maxHeartbeats 1600000 in
theorem dig58 {w : World} {pb n : Nat} {ga : Option Addr} {G : Nat} {A : Nat → Option Addr} {L C RB RO : Nat → Nat} {T H I : Nat → Nat → Int} {gb go : Nat}
    (hp : w.cell? ⟨pb, 0, none⟩ = some (.slice ga G G)) (g : GridAt w ga G A L C RB RO T H I gb go) (fit : SizeOK G L) (dom : DomOK n G L T) :
    Calls Try.prog 58 #[.int .i64 n, .pointer (some ⟨pb, 0, none⟩)] w fun e w' => DigMade w w' e n (flatTo L T H I G) := by
  have hG := g.bdG
  obtain ⟨fit1, fit2⟩ := fit
  obtain ⟨_, hn1, hT⟩ := dom
  have hmk := run_make_row' (P := Try.prog) 31 3 (.int .i64 0) 8 Try.underlying31 Try.info3 rfl .i64 .i64 (n + 1) (by omega) (by omega)
  rw [show ((n + 1 : Nat) : Int) = (n : Int) + 1 from by omega] at hmk
  have hp3 := cell_three hp
  have HT : Aside (∀ (r c : Nat), r < G → c < L r → 0 ≤ T r c ∧ T r c < (n : Int)) := hT
  have HP : Aside (w.cell? ⟨pb, 0, none⟩ = some (.slice ga G G)) := hp
  have HG : Aside (GridAt w ga G A L C RB RO T H I gb go) := g
  clear g hT hp
  go_enter Try.func58, Try.ntmps58
  go_wp2
  clear hmk hp3
  -- THE COUNTING LOOP
  go_loopg [25] G (fun k i wr => ∃ (r : Nat), r ≤ G ∧ k = G - r ∧ i = .int .i64 r ∧ Dig w wr n (S1 (flatTo L T H I r)) (.slice none 0 0) (.slice none 0 0))
  case atStart => exact ⟨0, Nat.zero_le _, rfl, rfl, dig_start w n⟩
  case round =>
    obtain ⟨r, hr, rfl, rfl, hD⟩ := hrel
    by_cases hrG : r < G
    · have hrz : (r : Int) < (G : Int) := by omega
      obtain rfl := HG.out.ga (by omega)
      have g1 := HG.out.later hD.since (Nat.le_refl _)
      have c0 := g1.row r hrG
      have hL := g1.bdL r hrG
      obtain ⟨ar, HAr⟩ : ∃ ar, Aside (A r = ar) := ⟨_, rfl⟩
      rw [HAr.out] at c0
      clear g1
      go_wp2
      clear c0
      obtain ⟨wo, rfl⟩ : ∃ wo : World, wo = wr := ⟨_, rfl⟩
      go_loopg [31] (L r) (fun k i wi => ∃ c : Nat, c ≤ L r ∧ k = L r - c ∧ i = .int .i64 c ∧ Dig w wi n (S1 (flatTo L T H I r ++ rowTo (T r) (H r) (I r) c)) (.slice none 0 0) (.slice none 0 0))
      case atStart => exact ⟨0, Nat.zero_le _, rfl, rfl, by simpa [rowTo] using hD⟩
      case round =>
        obtain ⟨c, hc, rfl, rfl, hI⟩ := hrel
        by_cases hcL : c < L r
        · have hcz : (c : Int) < (L r : Int) := by omega
          obtain rfl : ar = some ⟨RB r, RO r, none⟩ := HAr.out.symm.trans (HG.out.addr r hrG c hcL)
          have g2 := HG.out.later hI.since (Nat.le_refl _)
          obtain ⟨t0, t1⟩ := HT.out r c hrG hcL
          obtain ⟨t, ht⟩ : ∃ t : Nat, T r c = t := ⟨(T r c).toNat, by omega⟩
          have q1 := g2.tail r hrG c hcL
          have q2 := g2.head r hrG c hcL
          have q3 := g2.item r hrG c hcL
          rw [ht] at q1 t0 t1
          have q4 := hI.cell0
          have q5 := hI.start.cell (i := t + 1) (by omega)
          have q6 := hI.start.frozen (t + 1)
          have l1 := hI.start.lt
          have l2 := hI.dd.lt
          have sb := S1_bd (flatTo L T H I r ++ rowTo (T r) (H r) (I r) c) (t + 1)
          rw [List.length_append, length_flatTo, length_rowTo] at sb
          have hs1 := sumTo_one L hrG
          obtain ⟨sb0, sb1⟩ := sb
          have sb2 : S1 (flatTo L T H I r ++ rowTo (T r) (H r) (I r) c) (t + 1) ≤ 1048576 := by omega
          have HTT : Aside (T r c = t) := ht
          clear g2 ht hD
          clear sb1
          go_wp2
          go_roundg (L r - (c + 1))
          case measure => go_light; omega
          case rel =>
            go_light
            refine ⟨c + 1, by omega, rfl, by simp, (hI.set _ _ (fun u _ => ?_)).alloc _⟩
            rw [rowTo_succ, ← List.append_assoc]
            exact S1_step _ (T r c, H r c, I r c) t u HTT.out
        · have hcz : ¬ (c : Int) < (L r : Int) := by omega
          obtain rfl : c = L r := by omega
          clear hD
          go_wp2
          go_roundg (G - (r + 1))
          case measure => go_light; omega
          case rel => go_light; exact ⟨r + 1, by omega, rfl, by simp, hI⟩
    · have hrz : ¬ (r : Int) < (G : Int) := by omega
      obtain rfl : G = r := by omega
      go_wp2
      -- THE SUMMING LOOP
      obtain ⟨all, HALL⟩ : ∃ all, Aside (flatTo L T H I G = all) := ⟨_, rfl⟩
      rw [HALL.out] at hD
      have hlen : all.length = sumTo L G := by rw [← HALL.out]; exact length_flatTo _ _ _ _ _
      have HLEN : Aside (all.length = sumTo L G) := hlen
      clear hlen
      go_loopg [47] n (fun k i wi => ∃ v : Nat, v ≤ n ∧ k = n - v ∧ i = .int .i64 v ∧ Dig w wi n (S2 all v) (.slice none 0 0) (.slice none 0 0))
      case atStart => exact ⟨0, Nat.zero_le _, rfl, rfl, hD.congr (fun u _ => S2_start all u)⟩
      case round =>
        obtain ⟨v, hv, rfl, rfl, hI⟩ := hrel
        clear hD
        by_cases hvn : v < n
        · have hvz : (v : Int) < (n : Int) := by omega
          have q4 := hI.cell0
          have q5 := hI.start.cell (i := v + 1) (by omega)
          have q7 := hI.start.cell (i := v) (by omega)
          have q6 := hI.start.frozen (v + 1)
          obtain ⟨b1, b2⟩ := S2_bd all (by have := HLEN.out; omega) v (v + 1)
          obtain ⟨b3, b4⟩ := S2_bd all (by have := HLEN.out; omega) v v
          go_wp2
          go_region
          go_wp2
          go_roundg (n - (v + 1))
          case measure => go_light; omega
          case rel => go_light; exact ⟨v + 1, by omega, rfl, by simp, (hI.set _ _ (fun u _ => S2_step all v u)).drew⟩
        · have hvz : ¬ (v : Int) < (n : Int) := by omega
          obtain rfl : n = v := by omega
          obtain ⟨m, HM⟩ : ∃ m, Aside (cum all n = m) := ⟨_, rfl⟩
          have hm : m ≤ 1048576 := by have := cum_le all n; have := HLEN.out; have := HM.out; omega
          have hmk := run_make_row' (P := Try.prog) 28 21 (.int .i32 0) 4 Try.underlying28 Try.info21 rfl .i64 .i64 m (by omega) (by omega)
          have q4 := hI.cell0
          have q8 := hI.cell1
          have q9 := hI.cell2
          have q5 : wr.cell? ⟨w.heap.size + 1, n, none⟩ = some (.int .i64 (m : Int)) := by
            rw [hI.start.cell (i := n) (by omega), ← HM.out]; simp [S2]
          have q6 := hI.dd.frozen 1
          have q7 := hI.dd.frozen 2
          have l1 := hI.start.lt
          have l2 := hI.dd.lt
          have hpb : pb < w.heap.size := World.block_lt_of_cell? _ _ HP.out
          have hp1 : ∀ v1 v2 o1 o2, ((((wr.setCell ⟨w.heap.size + 1 + 1, 1, none⟩ v1).setCell ⟨w.heap.size + 1 + 1, 2, none⟩ v2).alloc o1).alloc o2).cell? ⟨pb, 0, none⟩ = some (.slice ga G G) := fun v1 v2 o1 o2 => by
            have := ((hI.since.setCell (a := ⟨w.heap.size + 1 + 1, 1, none⟩) (by show _ ≤ w.heap.size + 1 + 1; omega) v1).setCell (a := ⟨w.heap.size + 1 + 1, 2, none⟩) (by show _ ≤ w.heap.size + 1 + 1; omega) v2)
            have := (this.alloc this.size o1)
            have := (this.alloc this.size o2)
            rw [this.cell (by exact hpb)]; exact HP.out
          have hD3 := dig3_start (m := m) hI
          clear hI
          go_wp2
          clear hp1 hmk q4 q8 q9 q5 q6 q7
          obtain ⟨bh, hbh⟩ : ∃ bh, bh = wr.heap.size := ⟨_, rfl⟩
          rw [← hbh] at hD3 l1 l2 ⊢
          clear hbh
          have hINR : InR all n := by rw [← HALL.out]; exact flatTo_inR L T H I HT.out
          have HINR : Aside (InR all n ∧ cum all n = m) := ⟨hINR, HM.out⟩
          clear hINR HM
          -- THE PLACING LOOP
          go_loopg [83] G (fun k i wi => ∃ (r : Nat) (Hs Is : Nat → Int), r ≤ G ∧ k = G - r ∧ i = .int .i64 r ∧ Dig3 w wi n m bh (S3 all (flatTo L T H I r) n) Hs Is ∧ Placed all (·.2.1) (flatTo L T H I r) Hs ∧ Placed all (·.2.2) (flatTo L T H I r) Is)
          case atStart => exact ⟨0, fun _ => 0, fun _ => 0, Nat.zero_le _, rfl, rfl, hD3.congr (fun u hu => S3_start all n u hu), placed_nil _ _ _, placed_nil _ _ _⟩
          case round =>
            obtain ⟨r, Hs, Is, hr, rfl, rfl, hI, hP1, hP2⟩ := hrel
            clear hD3
            have HPP : Aside (Placed all (·.2.1) (flatTo L T H I r) Hs ∧ Placed all (·.2.2) (flatTo L T H I r) Is) := ⟨hP1, hP2⟩
            clear hP1 hP2
            by_cases hrG : r < G
            · have hrz : (r : Int) < (G : Int) := by omega
              obtain rfl := HG.out.ga (by omega)
              have g1 := HG.out.later hI.dig.since (Nat.le_refl _)
              have c0 := g1.row r hrG
              have hL := g1.bdL r hrG
              obtain ⟨ar, HAr⟩ : ∃ ar, Aside (A r = ar) := ⟨_, rfl⟩
              rw [HAr.out] at c0
              clear g1
              go_wp2
              clear c0
              obtain ⟨wo, rfl⟩ : ∃ wo : World, wo = wr := ⟨_, rfl⟩
              go_loopg [89] (L r) (fun k i wi => ∃ (c : Nat) (Hs Is : Nat → Int), c ≤ L r ∧ k = L r - c ∧ i = .int .i64 c ∧ Dig3 w wi n m bh (S3 all (flatTo L T H I r ++ rowTo (T r) (H r) (I r) c) n) Hs Is ∧ Placed all (·.2.1) (flatTo L T H I r ++ rowTo (T r) (H r) (I r) c) Hs ∧ Placed all (·.2.2) (flatTo L T H I r ++ rowTo (T r) (H r) (I r) c) Is)
              case atStart => exact ⟨0, Hs, Is, Nat.zero_le _, rfl, rfl, by simpa [rowTo] using hI, by simpa [rowTo] using HPP.out.1, by simpa [rowTo] using HPP.out.2⟩
              case round =>
                clear hI HPP
                obtain ⟨c, Hs, Is, hc, rfl, rfl, hI, hP1, hP2⟩ := hrel
                have HPP : Aside (Placed all (·.2.1) (flatTo L T H I r ++ rowTo (T r) (H r) (I r) c) Hs ∧ Placed all (·.2.2) (flatTo L T H I r ++ rowTo (T r) (H r) (I r) c) Is) := ⟨hP1, hP2⟩
                clear hP1 hP2
                by_cases hcL : c < L r
                · have hcz : (c : Int) < (L r : Int) := by omega
                  obtain rfl : ar = some ⟨RB r, RO r, none⟩ := HAr.out.symm.trans (HG.out.addr r hrG c hcL)
                  have g2 := HG.out.later hI.dig.since (Nat.le_refl _)
                  obtain ⟨t0, t1⟩ := HT.out r c hrG hcL
                  obtain ⟨t, ht⟩ : ∃ t : Nat, T r c = t := ⟨(T r c).toNat, by omega⟩
                  have q1 := g2.tail r hrG c hcL
                  have q2 := g2.head r hrG c hcL
                  have q3 := g2.item r hrG c hcL
                  obtain ⟨rest, hsplit⟩ := flatTo_split L T H I hrG hcL
                  rw [HALL.out] at hsplit
                  rw [ht] at q1 t0 t1
                  obtain ⟨l, Hl⟩ : ∃ l, Aside (flatTo L T H I r ++ rowTo (T r) (H r) (I r) c = l) := ⟨_, rfl⟩
                  rw [Hl.out] at hI hsplit HPP
                  obtain ⟨p, hp⟩ : ∃ p, cum all t + cnt l t = p := ⟨_, rfl⟩
                  have hpm : p < m := by
                    have e1 := HINR.out.2
                    have e2 := cum_one all (v := t) (n := n) (by omega)
                    have e3 : cnt l t < cnt all t := by rw [hsplit, cnt_append]; rw [show (T r c, H r c, I r c) :: rest = [(T r c, H r c, I r c)] ++ rest from rfl, cnt_append]; simp [cnt, pick, ht]; omega
                    omega
                  have s3 : S3 all l n t = (p : Int) := by simp only [S3]; rw [if_pos (by omega)]; omega
                  have q4 := hI.dig.cell0
                  have q5 := hI.dig.cell1
                  have q6 := hI.dig.cell2
                  have q7 : wr.cell? ⟨w.heap.size + 1, t, none⟩ = some (.int .i64 (p : Int)) := by rw [hI.dig.start.cell (i := t) (by omega), s3]
                  have q8 := hI.dig.start.frozen t
                  have q9 := hI.heads.cell (i := p) hpm
                  have q10 := hI.items.cell (i := p) hpm
                  have q11 := hI.heads.frozen p
                  have q12 := hI.items.frozen p
                  have k1 := hI.dig.start.lt
                  have k2 := hI.dig.dd.lt
                  have k3 := hI.heads.lt
                  have k4 := hI.items.lt
                  have hpz : (p : Int) < (m : Int) := by omega
                  have HST : Aside (T r c = t ∧ cum all t + cnt l t = p ∧ all = l ++ (T r c, H r c, I r c) :: rest ∧ S3 all l n t = (p : Int)) := ⟨ht, hp, hsplit, s3⟩
                  clear g2 ht hp hsplit s3
                  go_wp2
                  go_region
                  go_wp2
                  go_roundg (L r - (c + 1))
                  case measure => go_light; omega
                  case rel =>
                    go_light
                    obtain ⟨ht, hp, hsplit, s3⟩ := HST.out
                    have el : flatTo L T H I r ++ rowTo (T r) (H r) (I r) (c + 1) = l ++ [(T r c, H r c, I r c)] := by rw [rowTo_succ, ← List.append_assoc, Hl.out]
                    have st := ((dig3_step hI p t (H r c) (I r c) (p + 1) (S' := S3 all (l ++ [(T r c, H r c, I r c)]) n) (fun u _ => by rw [← s3]; exact S3_step all l (T r c, H r c, I r c) n t u ht (by omega))).alloc (Obj.cells #[Value.int IntKind.i32 t, Value.int IntKind.i32 (H r c), Value.int IntKind.i32 (I r c)] 106)).drew
                    have p1 := placed_step hsplit ht HPP.out.1
                    have p2 := placed_step hsplit ht HPP.out.2
                    rw [hp] at p1 p2
                    rw [← el] at st p1 p2
                    exact ⟨c + 1, _, _, by omega, rfl, by simp, st, p1, p2⟩
                · have hcz : ¬ (c : Int) < (L r : Int) := by omega
                  obtain rfl : c = L r := by omega
                  go_wp2
                  go_roundg (G - (r + 1))
                  case measure => go_light; omega
                  case rel => go_light; exact ⟨r + 1, Hs, Is, by omega, rfl, by simp, hI, HPP.out.1, HPP.out.2⟩
            · have hrz : ¬ (r : Int) < (G : Int) := by omega
              obtain rfl : G = r := by omega
              rw [HALL.out] at hI HPP
              have q4 := hI.dig.cell0
              have r4 := hI.dig.start
              by_cases hn0 : n = 0
              · subst hn0
                go_wp2
                go_region_held3 (fun w' => w'.cell? ⟨w.heap.size + 1 + 1, 0, none⟩ = some (.slice (some ⟨w.heap.size + 1, 0, none⟩) (0 + 1) (0 + 1))) (first | assumption | go_keep) (first | (refine step_copy_rowIs rfl (.tmp 123) (.tmp 127) 31 31 rfl 3 Try.underlying31 (by kernel_rfl) (w.heap.size + 1) 0 0 0 (w.heap.size + 1) 0 0 1 (by simp [Act.eval]) (by simp [Act.eval]) 3 (0 + 1) 0 _ _ r4.drew (by simp) (fun j hj => by rw [Nat.zero_add]; exact r4.drew.cell (by omega)) (by omega) (fun j hj => rfl) ?_; intro w4 hO4 hR4; have hI4 := dig3_copied0 hI hO4 hR4; have q44 := hI4.dig.cell0))
                clear r4 q4 q44
                have q44 := hI4.dig.cell0
                have q45 := hI4.dig.cell1
                have q46 := hI4.dig.cell2
                have q47 := hI4.dig.start.cell (i := 0) (by omega)
                have q48 := hI4.dig.start.frozen 0
                have q50 := hI4.dig.res.cell (i := 0) (by omega)
                have q51 := hI4.dig.res.cell (i := 1) (by omega)
                have q52 := hI4.dig.res.cell (i := 2) (by omega)
                have q53 := hI4.dig.res.frozen 0
                have q54 := hI4.dig.res.frozen 1
                have q55 := hI4.dig.res.frozen 2
                have HEND := fun e => dig_end hI4 HINR.out.1 HINR.out.2 HPP.out.1 HPP.out.2 (e := e)
                clear hI4
                go_wp2
                refine bodyPost_ret (v := .agg #[.slice (some ⟨w.heap.size + 1, 0, none⟩) (0 + 1) (0 + 1), .slice (some ⟨bh, 0, none⟩) m m, .slice (some ⟨bh + 1, 0, none⟩) m m]) ?hres rfl ?hpost
                case hres => go_light; simp [results, Try.results58, go_sem, q50, q51, q52]
                case hpost => go_light; rw [HALL.out]; exact HEND _ rfl
              · have e1 : ¬ n + 1 = 1 := by omega
                have e2 : (1 : Int) ≤ (n : Int) + 1 := by omega
                have e3 : (0 : Int) ≤ (n : Int) := by omega
                have e4 : (n : Int) ≤ (n : Int) + 1 := by omega
                go_wp2
                go_region_held3 (fun w' => w'.cell? ⟨w.heap.size + 1 + 1, 0, none⟩ = some (.slice (some ⟨w.heap.size + 1, 0, none⟩) (n + 1) (n + 1))) (first | assumption | go_keep) (first | (refine step_copy_rowIs rfl (.tmp 123) (.tmp 127) 31 31 rfl 3 Try.underlying31 (by kernel_rfl) (w.heap.size + 1) 1 n n (w.heap.size + 1) 0 n (n + 1) (by simp [Act.eval]) (by simp [Act.eval]) 3 (n + 1) n _ _ r4.drew (by simp) (fun j hj => by rw [Nat.zero_add]; exact r4.drew.cell (by omega)) (by omega) (fun j hj => rfl) ?_; intro w4 hO4 hR4; have hI4 := dig3_copied hI hO4 hR4; have q44 := hI4.dig.cell0))
                clear r4 q4 q44
                have q44 := hI4.dig.cell0
                have q45 := hI4.dig.cell1
                have q46 := hI4.dig.cell2
                have q47 := hI4.dig.start.cell (i := 0) (by omega)
                have q48 := hI4.dig.start.frozen 0
                have q50 := hI4.dig.res.cell (i := 0) (by omega)
                have q51 := hI4.dig.res.cell (i := 1) (by omega)
                have q52 := hI4.dig.res.cell (i := 2) (by omega)
                have q53 := hI4.dig.res.frozen 0
                have q54 := hI4.dig.res.frozen 1
                have q55 := hI4.dig.res.frozen 2
                have HEND := fun e => dig_end hI4 HINR.out.1 HINR.out.2 HPP.out.1 HPP.out.2 (e := e)
                clear hI4
                go_wp2
                refine bodyPost_ret (v := .agg #[.slice (some ⟨w.heap.size + 1, 0, none⟩) (n + 1) (n + 1), .slice (some ⟨bh, 0, none⟩) m m, .slice (some ⟨bh + 1, 0, none⟩) m m]) ?hres rfl ?hpost
                case hres => go_light; simp [results, Try.results58, go_sem, q50, q51, q52]
                case hpost => go_light; rw [HALL.out]; exact HEND _ rfl

end Go.Proofs.Qxb6601390a
