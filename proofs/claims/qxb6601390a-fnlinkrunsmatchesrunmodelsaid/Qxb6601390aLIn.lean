/-
  zzClone32_b1 (30), ZZMakeViewVersionB1 (48), zzVersionsIn_b1 (14).
-/
import Derived.Test.Qxb6601390aLDom
import Derived.Deep.RegionHeld3
namespace Go.Proofs.Qxb6601390a
open Go.RowKit Plain

theorem Try.size21 : (Try.prog.info? 21).map (·.size) = some 1 := by kernel_rfl

/-- WHAT zzClone32_b1 LEAVES: the same numbers in new memory (nil for nil). -/
def Cloned32 (w w' : World) (e : Ending) (n : Nat) (X : Nat → Int) : Prop :=
  ∃ a' b' c', e = .returned (.slice a' n c') ∧ w.Since w.heap.size w' ∧ IntsAt .i32 w' a' n X b' 0 ∧ w.heap.size ≤ b'

set_option maxHeartbeats 400000 in
theorem clone30_nil (w : World) (c : Nat) (X : Nat → Int) : Calls Try.prog 30 #[.slice none 0 c] w fun e w' => Cloned32 w w' e 0 X := by
  have h2 := fun w a n c => Lib.run_eql_slice_nil (P := Try.prog) w 28 21 a n c 0 0 Try.underlying28
  go_enter Try.func30, Try.ntmps30
  go_wp2
  go_ret
  exact ⟨none, w.heap.size, 0, rfl, World.Since.refl _ _, ⟨fun h => absurd h (Nat.lt_irrefl _), fun i h => absurd h (Nat.not_lt_zero _)⟩, Nat.le_refl _⟩

set_option maxHeartbeats 400000 in
theorem clone30_some {w : World} {b o n c : Nat} {X : Nat → Int} (h : IntsAt .i32 w (some ⟨b, o, none⟩) n X b o) (hn : n ≤ 1048576) : Calls Try.prog 30 #[.slice (some ⟨b, o, none⟩) n c] w fun e w' => Cloned32 w w' e n X := by
  have h2 := fun w a n c => Lib.run_eql_slice_nil (P := Try.prog) w 28 21 a n c 0 0 Try.underlying28
  have hmk := run_make_row' (P := Try.prog) 28 21 (.int .i32 0) 4 Try.underlying28 Try.info21 rfl .i64 .i64 n (by omega) (by omega)
  have s1 := (World.Since.refl w.heap.size w).alloc (Nat.le_refl _) (.cells (madeCells #[.int .i32 0] n) 21)
  have r1 := World.rowIs_made w (.int .i32 0) n 21
  have hx := (h.later s1 (Nat.le_refl _)).cell
  go_enter Try.func30, Try.ntmps30
  go_wp2_with (refine wpList_copy_rowIs rfl (.tmp 9) (.tmp 10) 28 28 rfl 21 Try.underlying28 Try.size21 w.heap.size 0 n n b o n c rfl rfl 21 n n _ (fun j => .int .i32 (X j)) r1 (by simp) hx (by omega) (fun _ _ => rfl) ?_; intro w2 ho hr)
  go_ret
  have hr2 : w2.rowIs w.heap.size 21 n (fun j => .int .i32 (X j)) := hr.congr (fun j hj => by simp only [copied]; rw [if_pos (by omega), Nat.sub_zero])
  exact ⟨some ⟨w.heap.size, 0, none⟩, w.heap.size, n, rfl, ho.since s1 (Nat.le_refl _), IntsAt.ofRow hr2, Nat.le_refl _⟩

set_option maxHeartbeats 400000 in
theorem clone30_empty (w : World) (a : Addr) (c : Nat) (X : Nat → Int) : Calls Try.prog 30 #[.slice (some a) 0 c] w fun e w' => Cloned32 w w' e 0 X := by
  have h2 := fun w a n c => Lib.run_eql_slice_nil (P := Try.prog) w 28 21 a n c 0 0 Try.underlying28
  have hmk : ∀ w, (Instr.makeSlice 28 (.int .i64 0) (.int .i64 0)).run Try.prog w = .ok (.slice (some ⟨w.heap.size, 0, none⟩) 0 0) (w.alloc (.cells (madeCells #[.int .i32 0] 0) 21)) := fun w => run_make_row' (P := Try.prog) 28 21 (.int .i32 0) 4 Try.underlying28 Try.info21 rfl .i64 .i64 0 (by omega) (by omega) w
  have s1 := (World.Since.refl w.heap.size w).alloc (Nat.le_refl _) (.cells (madeCells #[.int .i32 0] 0) 21)
  go_enter Try.func30, Try.ntmps30
  go_wp2_with (refine wpList_copy_nothing rfl (.tmp 9) (.tmp 10) 28 28 rfl 21 Try.underlying28 Try.size21 _ _ _ _ _ _ rfl rfl (by simp) ?_)
  go_ret
  exact ⟨some ⟨w.heap.size, 0, none⟩, w.heap.size, 0, rfl, s1, ⟨fun h => absurd h (Nat.lt_irrefl _), fun i h => absurd h (Nat.not_lt_zero _)⟩, Nat.le_refl _⟩

theorem clone30 {w : World} {a : Option Addr} {b o n c : Nat} {X : Nat → Int} (h : IntsAt .i32 w a n X b o) (hn : n ≤ 1048576) : Calls Try.prog 30 #[.slice a n c] w fun e w' => Cloned32 w w' e n X := by
  by_cases h0 : 0 < n
  · obtain rfl := h.addr h0
    exact clone30_some h hn
  · obtain rfl : n = 0 := by omega
    cases a with
    | none => exact clone30_nil w c X
    | some a => exact clone30_empty w a c X

set_option maxHeartbeats 400000 in
theorem make48 (x y z : Int) (a : Option Addr) (n c : Nat) (w : World) :
    Calls Try.prog 48 #[.int .i32 x, .int .i32 y, .slice a n c, .int .i32 z] w fun e w' => e = .returned (.agg #[.int .i32 x, .int .i32 y, .slice a n c, .int .i32 z]) ∧ w' = w.alloc (.cells #[.int .i32 x, .int .i32 y, .slice a n c, .int .i32 z] 46) := by
  go_enter Try.func48, Try.ntmps48
  go_wp2
  exact bodyPost_ret (v := .agg #[.int .i32 x, .int .i32 y, .slice a n c, .int .i32 z]) (by simp [results, Try.results48, go_sem]) rfl ⟨rfl, rfl⟩

theorem Try.info46 : (Try.prog.info? 46).map (fun i => (i.zero, i.size, i.bytes)) = some (some (.agg #[.int .i32 0, .int .i32 0, .slice none 0 0, .int .i32 0]), 4, 40) := by kernel_rfl
theorem run_make46 (n : Nat) (hn : n ≤ 1048576) (w : World) :
    (Instr.makeSlice 37 (.int .i64 (n : Int)) (.int .i64 (n : Int))).run Try.prog w = .ok (.slice (some ⟨w.heap.size, 0, none⟩) n n) (w.alloc (.cells (madeCells #[.int .i32 0, .int .i32 0, .slice none 0 0, .int .i32 0] (n * 4)) 46)) := by
  obtain ⟨i, hi, hzz⟩ := Option.map_eq_some_iff.1 Try.info46
  simp only [Prod.mk.injEq] at hzz
  obtain ⟨hz, hs, hb⟩ := hzz
  have hr := run_make (P := Try.prog) w 37 46 i _ Try.underlying37 hi hz .i64 .i64 n n (by omega) (Int.le_refl _) (by rw [hb]; omega) (by omega)
  simp only [Int.toNat_natCast, hs] at hr
  exact hr

/-- Four cells an element: a row told by its four columns. -/
def quad (A B C D : Nat → Value) (q : Nat) : Value := if q % 4 = 0 then A (q / 4) else if q % 4 = 1 then B (q / 4) else if q % 4 = 2 then C (q / 4) else D (q / 4)
theorem quad0 (A B C D : Nat → Value) (i : Nat) : quad A B C D (i * 4) = A i := by
  have h1 : (i * 4) % 4 = 0 := by omega
  have h2 : (i * 4) / 4 = i := by omega
  simp [quad, h2]
theorem quad1 (A B C D : Nat → Value) (i : Nat) : quad A B C D (i * 4 + 1) = B i := by
  have h1 : (i * 4 + 1) % 4 = 1 := by omega
  have h2 : (i * 4 + 1) / 4 = i := by omega
  simp [quad, h1, h2]
theorem quad2 (A B C D : Nat → Value) (i : Nat) : quad A B C D (i * 4 + 2) = C i := by
  have h1 : (i * 4 + 2) % 4 = 2 := by omega
  have h2 : (i * 4 + 2) / 4 = i := by omega
  simp [quad, h1, h2]
theorem quad3 (A B C D : Nat → Value) (i : Nat) : quad A B C D (i * 4 + 3) = D i := by
  have h1 : (i * 4 + 3) % 4 = 3 := by omega
  have h2 : (i * 4 + 3) / 4 = i := by omega
  simp [quad, h1, h2]
/-- Element k set. -/
def upd (A : Nat → Value) (k : Nat) (v : Value) (i : Nat) : Value := if i = k then v else A i
theorem quad_set {w : World} {b : Nat} {t : TypeId} {n : Nat} {A B C D : Nat → Value} (h : w.rowIs b t (n * 4) (quad A B C D)) (k : Nat) (x y z u : Value) :
    ((((w.setCell ⟨b, k * 4, none⟩ x).setCell ⟨b, k * 4 + 1, none⟩ y).setCell ⟨b, k * 4 + 2, none⟩ z).setCell ⟨b, k * 4 + 3, none⟩ u).rowIs b t (n * 4) (quad (upd A k x) (upd B k y) (upd C k z) (upd D k u)) := by
  refine ((((h.set (k * 4) _).set (k * 4 + 1) _).set (k * 4 + 2) _).set (k * 4 + 3) _).congr fun q _ => ?_
  by_cases e3 : q = k * 4 + 3
  · subst e3; rw [if_pos rfl, quad3, upd, if_pos rfl]
  rw [if_neg e3]
  by_cases e2 : q = k * 4 + 2
  · subst e2; rw [if_pos rfl, quad2, upd, if_pos rfl]
  rw [if_neg e2]
  by_cases e1 : q = k * 4 + 1
  · subst e1; rw [if_pos rfl, quad1, upd, if_pos rfl]
  rw [if_neg e1]
  by_cases e0 : q = k * 4
  · subst e0; rw [if_pos rfl, quad0, upd, if_pos rfl]
  rw [if_neg e0]
  have hk : q / 4 ≠ k := by omega
  simp [quad, upd, hk]
theorem quad_cells {w : World} {b : Nat} {t : TypeId} {n : Nat} {A B C D : Nat → Value} (h : w.rowIs b t (n * 4) (quad A B C D)) {i : Nat} (hi : i < n) :
    w.cell? ⟨b, i * 4, none⟩ = some (A i) ∧ w.cell? ⟨b, i * 4 + 1, none⟩ = some (B i) ∧ w.cell? ⟨b, i * 4 + 2, none⟩ = some (C i) ∧ w.cell? ⟨b, i * 4 + 3, none⟩ = some (D i) :=
  ⟨by rw [h.cell (by omega), quad0], by rw [h.cell (by omega), quad1], by rw [h.cell (by omega), quad2], by rw [h.cell (by omega), quad3]⟩
theorem quad_made (w : World) (n : Nat) (t : TypeId) (x y z u : Value) : (w.alloc (.cells (madeCells #[x, y, z, u] (n * 4)) t)).rowIs w.heap.size t (n * 4) (quad (fun _ => x) (fun _ => y) (fun _ => z) (fun _ => u)) := by
  have := World.rowIs_alloc w (madeCells #[x, y, z, u] (n * 4)) t (quad (fun _ => x) (fun _ => y) (fun _ => z) (fun _ => u)) (fun i hi => by
    rw [size_madeCells] at hi
    have : i % 4 = 0 ∨ i % 4 = 1 ∨ i % 4 = 2 ∨ i % 4 = 3 := by omega
    simp only [madeCells, Array.getElem?_map, Array.getElem?_range, hi, if_true, Option.map_some, quad]
    rcases this with e | e | e | e <;> simp [e])
  rwa [size_madeCells] at this
theorem quad_congr {w : World} {b : Nat} {t : TypeId} {n : Nat} {A B C D A' B' C' D' : Nat → Value} (h : w.rowIs b t (n * 4) (quad A B C D)) (e : ∀ i, i < n → A i = A' i ∧ B i = B' i ∧ C i = C' i ∧ D i = D' i) : w.rowIs b t (n * 4) (quad A' B' C' D') :=
  h.congr fun q hq => by
    have := e (q / 4) (by omega)
    simp only [quad, this.1, this.2.1, this.2.2.1, this.2.2.2]
end Go.Proofs.Qxb6601390a
