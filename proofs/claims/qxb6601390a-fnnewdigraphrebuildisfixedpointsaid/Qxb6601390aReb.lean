/-
  FnNewDigraphRebuildIsFixedPoint (6): the arcs read back out of the digraph, block by block: the memory of 'rebuilt'.
-/
import Derived.Test.Qxb6601390aGroups
namespace Go.Proofs.Qxb6601390a
open Go.RowKit Plain

theorem Try.info80 : (Try.prog.info? 80).map (fun i => (i.zero, i.size, i.bytes)) = some (some (.slice none 0 0), 1, 24) := by kernel_rfl
theorem Try.info82 : (Try.prog.info? 82).map (fun i => (i.zero, i.size, i.bytes)) = some (some (.agg #[.int .i32 0, .int .i32 0, .int .i32 0]), 3, 12) := by kernel_rfl

/-- 'make([]ArcB1, n)'. -/
theorem run_make82 (n : Nat) (hn : n ≤ 1048576) (w : World) :
    (Instr.makeSlice 80 (.int .i64 (n : Int)) (.int .i64 (n : Int))).run Try.prog w = .ok (.slice (some ⟨w.heap.size, 0, none⟩) n n) (w.alloc (.cells (madeCells #[.int .i32 0, .int .i32 0, .int .i32 0] (n * 3)) 82)) := by
  obtain ⟨i, hi, hzz⟩ := Option.map_eq_some_iff.1 Try.info82
  simp only [Prod.mk.injEq] at hzz
  obtain ⟨hz, hs, hb⟩ := hzz
  have hr := run_make (P := Try.prog) w 80 82 i _ Try.underlying80 hi hz .i64 .i64 n n (by omega) (Int.le_refl _) (by rw [hb]; omega) (by omega)
  simp only [Int.toNat_natCast, hs] at hr
  exact hr

structure ReOut (w wr : World) (G : Nat) (A : Nat → Option Addr) (L : Nat → Nat) (T H I : Nat → Nat → Int) (f : Nat → Nat) (r : Nat) : Prop where
  since : w.Since w.heap.size wr
  list : wr.rowIs w.heap.size 80 G (listCell A L f r)
  done : ∀ j, j < r → (A j).isSome = true → w.heap.size < f j ∧ wr.rowIs (f j) 82 (L j * 3) (arcCell (T j) (H j) (I j))

structure ReIn (wr wi : World) (n : Nat) (T H I : Nat → Int) (c : Nat) : Prop where
  since : wr.Since wr.heap.size wi
  row : wi.rowIs wr.heap.size 82 (n * 3) (arcCellTo T H I c)

theorem reIn_start (wo : World) (n : Nat) (T H I : Nat → Int) : ReIn wo (wo.alloc (.cells (madeCells #[.int .i32 0, .int .i32 0, .int .i32 0] (n * 3)) 82)) n T H I 0 := by
  refine ⟨(World.Since.refl _ _).alloc (Nat.le_refl _) _, ?_⟩
  have := World.rowIs_alloc wo (madeCells #[.int .i32 0, .int .i32 0, .int .i32 0] (n * 3)) 82 (arcCellTo T H I 0) (fun i hi => by
    rw [size_madeCells] at hi
    rw [made3 n i hi]
    simp [arcCellTo])
  rwa [size_madeCells] at this

theorem reIn_step {wo wr : World} {n : Nat} {T H I : Nat → Int} {c : Nat} (h : ReIn wo wr n T H I c) :
    ReIn wo (((wr.setCell ⟨wo.heap.size, c * 3, none⟩ (.int .i32 (T c))).setCell ⟨wo.heap.size, c * 3 + 1, none⟩ (.int .i32 (H c))).setCell ⟨wo.heap.size, c * 3 + 2, none⟩ (.int .i32 (I c))).drew n T H I (c + 1) := by
  have s3 := ((h.since.setCell (a := ⟨wo.heap.size, c * 3, none⟩) (Nat.le_refl _) (.int .i32 (T c))).setCell (a := ⟨wo.heap.size, c * 3 + 1, none⟩) (Nat.le_refl _) (.int .i32 (H c))).setCell (a := ⟨wo.heap.size, c * 3 + 2, none⟩) (Nat.le_refl _) (.int .i32 (I c))
  refine ⟨s3.drew, ((((h.row.set (c * 3) _).set (c * 3 + 1) _).set (c * 3 + 2) _).drew).congr fun i _ => ?_⟩
  by_cases e2 : i = c * 3 + 2
  · rw [if_pos e2]; subst e2; rw [arcCellTo, if_pos (by omega), arcCell2]
  rw [if_neg e2]
  by_cases e1 : i = c * 3 + 1
  · rw [if_pos e1]; subst e1; rw [arcCellTo, if_pos (by omega), arcCell1]
  rw [if_neg e1]
  by_cases e0 : i = c * 3
  · rw [if_pos e0]; subst e0; rw [arcCellTo, if_pos (by omega), arcCell0]
  rw [if_neg e0]
  simp only [arcCellTo]
  by_cases e : i < c * 3
  · rw [if_pos e, if_pos (by omega)]
  · rw [if_neg e, if_neg (by omega)]

theorem reIn_cell {wo wr : World} {n : Nat} {T H I : Nat → Int} {c : Nat} (h : ReIn wo wr n T H I c) (j : Nat) (hj : j < 3) (hc : c < n) : wr.cell? ⟨wo.heap.size, c * 3 + j, none⟩ = some (.int .i32 0) := by
  rw [h.row.cell (i := c * 3 + j) (by omega), arcCellTo, if_neg (by omega)]

theorem reOut_start (w : World) (G : Nat) (A : Nat → Option Addr) (L : Nat → Nat) (T H I : Nat → Nat → Int) (f : Nat → Nat) :
    ReOut w (w.alloc (.cells (madeCells #[.slice none 0 0] G) 80)) G A L T H I f 0 :=
  ⟨(World.Since.refl _ _).alloc (Nat.le_refl _) _, (World.rowIs_made w _ G 80).congr (fun j _ => by simp [listCell]), fun j hj => absurd hj (Nat.not_lt_zero _)⟩

/-- A row is done and laid into the list. -/
theorem reOut_step {w wo wi : World} {G : Nat} {A : Nat → Option Addr} {L : Nat → Nat} {T H I : Nat → Nat → Int} {f : Nat → Nat} {r : Nat} (h : ReOut w wo G A L T H I f r) (hi : ReIn wo wi (L r) (T r) (H r) (I r) (L r)) (hA : (A r).isSome = true) :
    ReOut w (wi.setCell ⟨w.heap.size, r, none⟩ (.slice (some ⟨wo.heap.size, 0, none⟩) (L r) (L r))) G A L T H I (fun j => if j = r then wo.heap.size else f j) (r + 1) := by
  have hN : w.heap.size < wo.heap.size := h.list.lt
  have hs : w.Since w.heap.size wi := h.since.trans ⟨hi.since.os, hi.since.tape, hi.since.output, hi.since.size, fun k hk => hi.since.block k (by omega)⟩
  refine ⟨hs.setCell (Nat.le_refl _) _, (((h.list.of_block (hi.since.block _ hN)).set r _)).congr (fun j _ => ?_), fun j hj hA' => ?_⟩
  · simp only [listCell]
    by_cases e : j = r
    · subst e; simp [hA]
    · rw [if_neg e]
      by_cases hlt : j < r
      · simp [hlt, Nat.lt_succ_of_lt hlt, e]
      · have : ¬ j < r + 1 := by omega
        simp [hlt, this]
  · by_cases e : j = r
    · subst e
      simp only [if_true]
      refine ⟨hN, ((hi.row.setOther (by show wo.heap.size ≠ w.heap.size; omega) _)).congr (fun i hi' => by rw [arcCellTo, if_pos hi'])⟩
    · simp only [if_neg e]
      obtain ⟨h1, h2⟩ := h.done j (by omega) hA'
      exact ⟨h1, ((h2.of_block (hi.since.block _ h2.lt)).setOther (by show f j ≠ w.heap.size; omega) _)⟩


theorem reIn_step' {wo wr : World} {n : Nat} {T H I : Nat → Int} {c : Nat} (h : ReIn wo wr n T H I c) (t : Int) (ht : t = T c) :
    ReIn wo (((wr.setCell ⟨wo.heap.size, c * 3, none⟩ (.int .i32 t)).setCell ⟨wo.heap.size, c * 3 + 1, none⟩ (.int .i32 (H c))).setCell ⟨wo.heap.size, c * 3 + 2, none⟩ (.int .i32 (I c))).drew n T H I (c + 1) := by
  subst ht; exact reIn_step h
theorem ReIn.drew {wo wr : World} {n : Nat} {T H I : Nat → Int} {c : Nat} (h : ReIn wo wr n T H I c) : ReIn wo wr.drew n T H I c := ⟨h.since.drew, h.row.drew⟩

/-! ### The plain law: the digraph's own arcs, node by node, are the sorted arcs; sorting them again changes nothing. -/
theorem pick_pick (l : List Arc) (u v : Nat) : pick (pick l u) v = if u = v then pick l u else [] := by
  simp only [pick, List.filter_filter]
  by_cases e : u = v
  · subst e; simp
  · rw [if_neg e]
    apply List.filter_eq_nil_iff.2
    intro a _
    simp only [Bool.and_eq_true, beq_iff_eq, not_and]
    intro h1 h2
    omega
theorem pick_bucket (l : List Arc) (n v : Nat) : pick (bucket l n) v = if v < n then pick l v else [] := by
  induction n with
  | zero => simp [bucket, pick]
  | succ n ih =>
    simp only [bucket, pick_append, ih, pick_pick]
    by_cases h : v < n
    · rw [if_pos h, if_neg (by omega), if_pos (by omega)]; simp
    · by_cases e : n = v
      · subst e; rw [if_neg h, if_pos rfl, if_pos (by omega)]; simp
      · rw [if_neg h, if_neg e, if_neg (by omega)]; simp
theorem bucket_bucket (l : List Arc) (n : Nat) {m : Nat} (h : m ≤ n) : bucket (bucket l n) m = bucket l m := by
  induction m with
  | zero => rfl
  | succ m ih => simp only [bucket, ih (by omega), pick_bucket, if_pos (show m < n by omega)]
theorem cum_bucket (l : List Arc) (n : Nat) {m : Nat} (h : m ≤ n) : cum (bucket l n) m = cum l m := by
  rw [← length_bucket, ← length_bucket, bucket_bucket l n h]

/-- The rebuilt blocks. -/
def reT (v _c : Nat) : Int := v
def reH (all : List Arc) (n v c : Nat) : Int := headAt all n (cum all v + c)
def reI (all : List Arc) (n v c : Nat) : Int := itemAt all n (cum all v + c)
theorem re_row (all : List Arc) {n v : Nat} (hv : v < n) : rowTo (reT v) (reH all n v) (reI all n v) (cnt all v) = pick all v := by
  apply List.ext_getElem?
  intro c
  by_cases h : c < cnt all v
  · have hb := bucket_get all n v c hv h
    have hc : c < (pick all v).length := h
    rw [List.getElem?_eq_getElem hc] at hb ⊢
    have ht : ((pick all v)[c]).1 = (v : Int) := by
      have := List.getElem_mem hc
      simp only [pick, List.mem_filter, beq_iff_eq] at this
      exact this.2
    simp only [rowTo, List.getElem?_map, List.getElem?_range h, Option.map_some, reT, reH, reI, headAt, itemAt, hb, Option.getD_some]
    rw [← ht]
  · rw [List.getElem?_eq_none (by rw [length_rowTo]; omega), List.getElem?_eq_none (by have : (pick all v).length = cnt all v := rfl; omega)]
theorem re_flat (all : List Arc) {n : Nat} : ∀ m, m ≤ n → flatTo (cnt all) reT (reH all n) (reI all n) m = bucket all m := by
  intro m
  induction m with
  | zero => intro _; rfl
  | succ m ih => intro h; simp only [flatTo, bucket, ih (by omega), re_row all (show m < n by omega)]
theorem re_sum (all : List Arc) (m : Nat) : sumTo (cnt all) m = cum all m := by
  induction m with
  | zero => rfl
  | succ m ih => simp only [sumTo, cum, ih]
theorem re_head (all : List Arc) (n q : Nat) : headAt (bucket all n) n q = headAt all n q := by simp only [headAt, bucket_bucket all n (Nat.le_refl n)]
theorem re_item (all : List Arc) (n q : Nat) : itemAt (bucket all n) n q = itemAt all n q := by simp only [itemAt, bucket_bucket all n (Nat.le_refl n)]

/-- The rebuilt blocks, all of them made, as a grid. -/
theorem re_grid {w wr : World} {n : Nat} {L : Nat → Nat} {T H I : Nat → Nat → Int} {f : Nat → Nat} (h : ReOut w wr n (fun _ => some ⟨0, 0, none⟩) L T H I f n) (hT : ∀ r c, r < n → c < L r → -2147483648 ≤ T r c ∧ T r c ≤ 2147483647) (hL : ∀ r, r < n → L r ≤ 1048576) (hn : n ≤ 65536) :
    GridAt wr (some ⟨w.heap.size, 0, none⟩) n (fun j => some ⟨f j, 0, none⟩) L L f (fun _ => 0) T H I w.heap.size 0 := by
  have hc : ∀ r, r < n → ∀ c, c < L r → ∀ j, j < 3 → wr.cell? ⟨f r, 0 + c * 3 + j, none⟩ = some (arcCell (T r) (H r) (I r) (c * 3 + j)) := fun r hr c hc j hj => by
    rw [Nat.zero_add]
    exact (h.done r hr rfl).2.cell (by omega)
  refine ⟨fun _ => rfl, fun r hr => ?_, (fun r hr e => by cases e), fun r hr c hc => rfl, fun r hr c hc' => ?_, fun r hr c hc' => ?_, fun r hr c hc' => ?_, hT, fun r hr => by have := hL r hr; omega, by omega⟩
  · rw [Nat.zero_add, h.list.cell hr, listCell]
    simp [hr]
  · have := hc r hr c hc' 0 (by omega); rw [Nat.add_zero, Nat.add_zero, arcCell0] at this; exact this
  · have := hc r hr c hc' 1 (by omega); rw [arcCell1] at this; exact this
  · have := hc r hr c hc' 2 (by omega); rw [arcCell2] at this; exact this

end Go.Proofs.Qxb6601390a
