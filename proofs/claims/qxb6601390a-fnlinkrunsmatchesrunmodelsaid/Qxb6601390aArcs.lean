/-
  zzArcList_b1 (39), ZZMakeArcB1 (59), ZZMakeArcListB1 (60): the blocks, copied into the analysis package's own arc list.
-/
import Derived.Test.Qxb6601390aGuards
import Derived.Deep.RegionHeld3
namespace Go.Proofs.Qxb6601390a
open Go.RowKit

theorem Try.info104 : (Try.prog.info? 104).map (fun i => (i.zero, i.size, i.bytes)) = some (some (.slice none 0 0), 1, 24) := by kernel_rfl
theorem Try.info106 : (Try.prog.info? 106).map (fun i => (i.zero, i.size, i.bytes)) = some (some (.agg #[.int .i32 0, .int .i32 0, .int .i32 0]), 3, 12) := by kernel_rfl

/-- 'make([]arc, n)'. -/
theorem run_make106 (n : Nat) (hn : n ≤ 1048576) (w : World) :
    (Instr.makeSlice 104 (.int .i64 (n : Int)) (.int .i64 (n : Int))).run Try.prog w = .ok (.slice (some ⟨w.heap.size, 0, none⟩) n n) (w.alloc (.cells (madeCells #[.int .i32 0, .int .i32 0, .int .i32 0] (n * 3)) 106)) := by
  obtain ⟨i, hi, hzz⟩ := Option.map_eq_some_iff.1 Try.info106
  simp only [Prod.mk.injEq] at hzz
  obtain ⟨hz, hs, hb⟩ := hzz
  have hr := run_make (P := Try.prog) w 104 106 i _ Try.underlying104 hi hz .i64 .i64 n n (by omega) (Int.le_refl _) (by rw [hb]; omega) (by omega)
  simp only [Int.toNat_natCast, hs] at hr
  exact hr

set_option maxHeartbeats 400000 in
theorem make59 (t h i : Int) (w : World) :
    Calls Try.prog 59 #[.int .i32 t, .int .i32 h, .int .i32 i] w fun e w' => e = .returned (.agg #[.int .i32 t, .int .i32 h, .int .i32 i]) ∧ w' = w.alloc (.cells #[.int .i32 t, .int .i32 h, .int .i32 i] 106) := by
  go_enter Try.func59, Try.ntmps59
  go_wp2
  exact bodyPost_ret (v := .agg #[.int .i32 t, .int .i32 h, .int .i32 i]) (by simp [results, Try.results59, go_sem]) rfl ⟨rfl, rfl⟩

set_option maxHeartbeats 400000 in
theorem list60 (w : World) (a : Option Addr) (n c : Nat) :
    Calls Try.prog 60 #[.slice a n c] w fun e w' => e = .returned (.pointer (some ⟨w.heap.size, 0, none⟩)) ∧ w' = w.alloc (.cells #[.slice a n c] 112) := by
  go_enter Try.func60, Try.ntmps60
  go_wp2
  go_ret
  exact ⟨rfl, rfl⟩

/-- The cells of a row of arcs. -/
def arcCell (T H I : Nat → Int) (i : Nat) : Value := .int .i32 (if i % 3 = 0 then T (i / 3) else if i % 3 = 1 then H (i / 3) else I (i / 3))
/-- .. of which c are filled. -/
def arcCellTo (T H I : Nat → Int) (c i : Nat) : Value := if i < c * 3 then arcCell T H I i else .int .i32 0

/-- The list's own cells, r rows done. -/
def listCell (A : Nat → Option Addr) (L : Nat → Nat) (f : Nat → Nat) (r j : Nat) : Value :=
  if j < r ∧ (A j).isSome = true then .slice (some ⟨f j, 0, none⟩) (L j) (L j) else .slice none 0 0

structure ArcOut (w wr : World) (G : Nat) (A : Nat → Option Addr) (L : Nat → Nat) (T H I : Nat → Nat → Int) (f : Nat → Nat) (r : Nat) : Prop where
  since : w.Since w.heap.size wr
  list : wr.rowIs w.heap.size 104 G (listCell A L f r)
  done : ∀ j, j < r → (A j).isSome = true → w.heap.size < f j ∧ wr.rowIs (f j) 106 (L j * 3) (arcCell (T j) (H j) (I j))

structure ArcIn (wr wi : World) (n : Nat) (T H I : Nat → Int) (c : Nat) : Prop where
  since : wr.Since wr.heap.size wi
  row : wi.rowIs wr.heap.size 106 (n * 3) (arcCellTo T H I c)

theorem three_mod (c : Nat) : (c * 3) % 3 = 0 ∧ (c * 3) / 3 = c ∧ (c * 3 + 1) % 3 = 1 ∧ (c * 3 + 1) / 3 = c ∧ (c * 3 + 2) % 3 = 2 ∧ (c * 3 + 2) / 3 = c := by omega
theorem arcCell0 (T H I : Nat → Int) (c : Nat) : arcCell T H I (c * 3) = .int .i32 (T c) := by
  obtain ⟨a, b, _⟩ := three_mod c
  simp [arcCell, b]
theorem arcCell1 (T H I : Nat → Int) (c : Nat) : arcCell T H I (c * 3 + 1) = .int .i32 (H c) := by
  obtain ⟨_, _, a, b, _⟩ := three_mod c
  simp [arcCell, a, b]
theorem arcCell2 (T H I : Nat → Int) (c : Nat) : arcCell T H I (c * 3 + 2) = .int .i32 (I c) := by
  obtain ⟨_, _, _, _, a, b⟩ := three_mod c
  simp [arcCell, a, b]

theorem made3 (n i : Nat) (hi : i < n * 3) : (madeCells #[Value.int .i32 0, .int .i32 0, .int .i32 0] (n * 3))[i]? = some (.int .i32 0) := by
  have h3 : i % 3 < 3 := Nat.mod_lt _ (by omega)
  have : i % 3 = 0 ∨ i % 3 = 1 ∨ i % 3 = 2 := by omega
  simp only [madeCells, Array.getElem?_map, Array.getElem?_range, hi, if_true, Option.map_some]
  rcases this with e | e | e <;> simp [e]

theorem arcIn_start (wo : World) (n : Nat) (T H I : Nat → Int) : ArcIn wo (wo.alloc (.cells (madeCells #[.int .i32 0, .int .i32 0, .int .i32 0] (n * 3)) 106)) n T H I 0 := by
  refine ⟨(World.Since.refl _ _).alloc (Nat.le_refl _) _, ?_⟩
  have := World.rowIs_alloc wo (madeCells #[.int .i32 0, .int .i32 0, .int .i32 0] (n * 3)) 106 (arcCellTo T H I 0) (fun i hi => by
    rw [size_madeCells] at hi
    rw [made3 n i hi]
    simp [arcCellTo])
  rwa [size_madeCells] at this

theorem arcIn_step {wo wr : World} {n : Nat} {T H I : Nat → Int} {c : Nat} (h : ArcIn wo wr n T H I c) (o : Obj) :
    ArcIn wo ((((wr.setCell ⟨wo.heap.size, c * 3, none⟩ (.int .i32 (T c))).setCell ⟨wo.heap.size, c * 3 + 1, none⟩ (.int .i32 (H c))).setCell ⟨wo.heap.size, c * 3 + 2, none⟩ (.int .i32 (I c))).alloc o).drew n T H I (c + 1) := by
  have s3 := ((h.since.setCell (a := ⟨wo.heap.size, c * 3, none⟩) (Nat.le_refl _) (.int .i32 (T c))).setCell (a := ⟨wo.heap.size, c * 3 + 1, none⟩) (Nat.le_refl _) (.int .i32 (H c))).setCell (a := ⟨wo.heap.size, c * 3 + 2, none⟩) (Nat.le_refl _) (.int .i32 (I c))
  refine ⟨(s3.alloc s3.size _).drew, (((((h.row.set (c * 3) _).set (c * 3 + 1) _).set (c * 3 + 2) _).alloc _).drew).congr fun i _ => ?_⟩
  by_cases e2 : i = c * 3 + 2
  · rw [if_pos e2]; subst e2; rw [arcCellTo, if_pos (by omega), arcCell2]
  rw [if_neg e2]
  by_cases e1 : i = c * 3 + 1
  · rw [if_pos e1]; subst e1; rw [arcCellTo, if_pos (by omega), arcCell1]
  rw [if_neg e1]
  by_cases e0 : i = c * 3
  · rw [if_pos e0]; subst e0; rw [arcCellTo, if_pos (by omega), arcCell0]
  rw [if_neg e0]
  simp only [arcCellTo]
  by_cases e : i < c * 3
  · rw [if_pos e, if_pos (by omega)]
  · rw [if_neg e, if_neg (by omega)]

theorem arcIn_cell {wo wr : World} {n : Nat} {T H I : Nat → Int} {c : Nat} (h : ArcIn wo wr n T H I c) (j : Nat) (hj : j < 3) (hc : c < n) : wr.cell? ⟨wo.heap.size, c * 3 + j, none⟩ = some (.int .i32 0) := by
  rw [h.row.cell (i := c * 3 + j) (by omega), arcCellTo, if_neg (by omega)]

theorem arcOut_start (w : World) (G : Nat) (A : Nat → Option Addr) (L : Nat → Nat) (T H I : Nat → Nat → Int) (f : Nat → Nat) :
    ArcOut w (w.alloc (.cells (madeCells #[.slice none 0 0] G) 104)) G A L T H I f 0 :=
  ⟨(World.Since.refl _ _).alloc (Nat.le_refl _) _, (World.rowIs_made w _ G 104).congr (fun j _ => by simp [listCell]), fun j hj => absurd hj (Nat.not_lt_zero _)⟩

/-- A nil row is passed over. -/
theorem arcOut_skip {w wr : World} {G : Nat} {A : Nat → Option Addr} {L : Nat → Nat} {T H I : Nat → Nat → Int} {f : Nat → Nat} {r : Nat} (h : ArcOut w wr G A L T H I f r) (hA : A r = none) : ArcOut w wr G A L T H I f (r + 1) := by
  refine ⟨h.since, h.list.congr (fun j _ => ?_), fun j hj hA' => ?_⟩
  · simp only [listCell]
    by_cases e : j = r
    · subst e; simp [hA]
    · by_cases hlt : j < r
      · simp [hlt, Nat.lt_succ_of_lt hlt]
      · have : ¬ j < r + 1 := by omega
        simp [hlt, this]
  · by_cases e : j = r
    · subst e; rw [hA] at hA'; cases hA'
    · exact h.done j (by omega) hA'

/-- A row is done and laid into the list. -/
theorem arcOut_step {w wo wi : World} {G : Nat} {A : Nat → Option Addr} {L : Nat → Nat} {T H I : Nat → Nat → Int} {f : Nat → Nat} {r : Nat} (h : ArcOut w wo G A L T H I f r) (hi : ArcIn wo wi (L r) (T r) (H r) (I r) (L r)) (hA : (A r).isSome = true) :
    ArcOut w (wi.setCell ⟨w.heap.size, r, none⟩ (.slice (some ⟨wo.heap.size, 0, none⟩) (L r) (L r))) G A L T H I (fun j => if j = r then wo.heap.size else f j) (r + 1) := by
  have hN : w.heap.size < wo.heap.size := h.list.lt
  have hs : w.Since w.heap.size wi := h.since.trans ⟨hi.since.os, hi.since.tape, hi.since.output, hi.since.size, fun k hk => hi.since.block k (by omega)⟩
  refine ⟨hs.setCell (Nat.le_refl _) _, (((h.list.of_block (hi.since.block _ hN)).set r _)).congr (fun j _ => ?_), fun j hj hA' => ?_⟩
  · simp only [listCell]
    by_cases e : j = r
    · subst e; simp [hA]
    · rw [if_neg e]
      by_cases hlt : j < r
      · simp [hlt, Nat.lt_succ_of_lt hlt, e]
      · have : ¬ j < r + 1 := by omega
        simp [hlt, this]
  · by_cases e : j = r
    · subst e
      simp only [if_true]
      refine ⟨hN, ((hi.row.setOther (by show wo.heap.size ≠ w.heap.size; omega) _)).congr (fun i hi' => by rw [arcCellTo, if_pos hi'])⟩
    · simp only [if_neg e]
      obtain ⟨h1, h2⟩ := h.done j (by omega) hA'
      exact ⟨h1, ((h2.of_block (hi.since.block _ h2.lt)).setOther (by show f j ≠ w.heap.size; omega) _)⟩

/-- WHAT zzArcList_b1 LEAVES: a pointer to an arc list that reads as the blocks do, in new memory. -/
def ArcsMade (w w' : World) (e : Ending) (G : Nat) (L : Nat → Nat) (T H I : Nat → Nat → Int) : Prop :=
  ∃ pb ga A C RB RO gb go, e = .returned (.pointer (some ⟨pb, 0, none⟩)) ∧ w'.cell? ⟨pb, 0, none⟩ = some (.slice ga G G) ∧ GridAt w' ga G A L C RB RO T H I gb go ∧ w.Since w.heap.size w'

theorem arcs_done {w wr : World} {ga : Option Addr} {G : Nat} {A : Nat → Option Addr} {L C RB RO : Nat → Nat} {T H I : Nat → Nat → Int} {gb go : Nat} (g : GridAt w ga G A L C RB RO T H I gb go)
    {f : Nat → Nat} (h : ArcOut w wr G A L T H I f G) {e : Ending} (he : e = .returned (.pointer (some ⟨wr.heap.size, 0, none⟩))) :
    ArcsMade w (wr.alloc (.cells #[.slice (some ⟨w.heap.size, 0, none⟩) G G] 112)) e G L T H I := by
  refine ⟨wr.heap.size, some ⟨w.heap.size, 0, none⟩, fun j => if (A j).isSome = true then some ⟨f j, 0, none⟩ else none, fun j => if (A j).isSome = true then L j else 0, f, fun _ => 0, w.heap.size, 0, he, by simp, ?_, h.since.alloc h.since.size _⟩
  have nz : ∀ r, r < G → ∀ c, c < L r → (A r).isSome = true := fun r hr c hc => by rw [g.addr r hr c hc]; rfl
  have hc : ∀ r, r < G → ∀ c, c < L r → ∀ j, j < 3 → (wr.alloc (.cells #[.slice (some ⟨w.heap.size, 0, none⟩) G G] 112)).cell? ⟨f r, 0 + c * 3 + j, none⟩ = some (arcCell (T r) (H r) (I r) (c * 3 + j)) := fun r hr c hc j hj => by
    rw [Nat.zero_add]
    exact ((h.done r hr (nz r hr c hc)).2.alloc _).cell (by omega)
  refine ⟨fun _ => rfl, fun r hr => ?_, fun r hr hn => ?_, fun r hr c hc => by simp [nz r hr c hc], fun r hr c hc' => ?_, fun r hr c hc' => ?_, fun r hr c hc' => ?_, g.bdT, g.bdL, g.bdG⟩
  · rw [Nat.zero_add, (h.list.alloc _).cell hr, listCell]
    by_cases e : (A r).isSome = true
    · simp [hr, e]
    · have : A r = none := by cases hh : A r with
        | none => rfl
        | some x => rw [hh] at e; exact absurd rfl e
      simp [this, g.nil r hr this]
  · by_cases e : (A r).isSome = true
    · simp [e] at hn
    · have : A r = none := by cases hh : A r with
        | none => rfl
        | some x => rw [hh] at e; exact absurd rfl e
      exact g.nil r hr this
  · have := hc r hr c hc' 0 (by omega); rw [Nat.add_zero, Nat.add_zero, arcCell0] at this; exact this
  · have := hc r hr c hc' 1 (by omega); rw [arcCell1] at this; exact this
  · have := hc r hr c hc' 2 (by omega); rw [arcCell2] at this; exact this

set_option maxHeartbeats 800000 in
theorem arcs39 {w : World} {ga : Option Addr} {G Gc : Nat} {A : Nat → Option Addr} {L C RB RO : Nat → Nat} {T H I : Nat → Nat → Int} {gb go : Nat}
    (g : GridAt w ga G A L C RB RO T H I gb go) (fit : SizeOK G L) (hga : ga ≠ none) :
    Calls Try.prog 39 #[.slice ga G Gc] w fun e w' => ArcsMade w w' e G L T H I := by
  have hG := g.bdG
  obtain ⟨fit1, fit2⟩ := fit
  have h1 := fun w a n c => run_neq_slice_nil_any (P := Try.prog) w 68 80 a n c 0 0 Try.underlying68
  have h2 := fun w a n c => Lib.run_eql_slice_nil (P := Try.prog) w 80 82 a n c 0 0 Try.underlying80
  have hmk := run_make_row' (P := Try.prog) 103 104 (.slice none 0 0) 24 Try.underlying103 Try.info104 rfl .i64 .i64 G (by omega) (by omega)
  obtain ⟨a0, rfl⟩ : ∃ a0, ga = some a0 := by cases ga with
    | none => exact absurd rfl hga
    | some a => exact ⟨a, rfl⟩
  go_enter Try.func39, Try.ntmps39
  go_wp2
  clear hmk h1 hga
  go_loopg [4] G (fun k i wr => ∃ (r : Nat) (f : Nat → Nat), r ≤ G ∧ k = G - r ∧ i = .int .i64 r ∧ ArcOut w wr G A L T H I f r)
  case atStart => exact ⟨0, fun _ => 0, Nat.zero_le _, rfl, rfl, arcOut_start w G A L T H I _⟩
  case round =>
    obtain ⟨r, f, hr, rfl, rfl, hO⟩ := hrel
    by_cases hrG : r < G
    · have hrz : (r : Int) < (G : Int) := by omega
      obtain rfl : a0 = ⟨gb, go, none⟩ := by have := g.ga (by omega); simpa using this
      have hf1 := sumTo_one L hrG
      have g1 := g.later hO.since (Nat.le_refl _)
      have c0 := g1.row r hrG
      have hL : L r ≤ 1048576 := by omega
      have hmk := run_make106 (L r) hL
      cases hAr : A r with
      | none =>
        rw [hAr] at c0
        have HA : Aside (A r = none) := hAr
        clear hAr hmk g g1
        go_wp2
        go_roundg (G - (r + 1))
        case measure => go_light; omega
        case rel => go_light; exact ⟨r + 1, f, by omega, rfl, by simp, arcOut_skip hO HA.out⟩
      | some ar =>
        rw [hAr] at c0
        have HA : Aside (A r = some ar) := hAr
        clear hAr
        go_wp2
        clear c0 hmk h2
        obtain ⟨wo, rfl⟩ : ∃ wo : World, wo = wr := ⟨_, rfl⟩
        go_loopg [7] (L r) (fun k i wi => ∃ c : Nat, c ≤ L r ∧ k = L r - c ∧ i = .int .i64 c ∧ ArcIn wo wi (L r) (T r) (H r) (I r) c)
        case atStart => exact ⟨0, Nat.zero_le _, rfl, rfl, arcIn_start wo (L r) _ _ _⟩
        case round =>
          obtain ⟨c, hc, rfl, rfl, hI⟩ := hrel
          by_cases hcL : c < L r
          · have hcz : (c : Int) < (L r : Int) := by omega
            obtain rfl : ar = ⟨RB r, RO r, none⟩ := by have := HA.out.symm.trans (g.addr r hrG c hcL); simpa using this
            have g2 := g1.later hI.since (Nat.le_refl _)
            have q1 := g2.tail r hrG c hcL
            have q2 := g2.head r hrG c hcL
            have q3 := g2.item r hrG c hcL
            have e0 := World.block_lt_of_cell? _ _ (g1.tail r hrG c hcL)
            have e1 : ¬ wo.heap.size = RB r := fun h => by simp only at e0; omega
            have d0 : wr.cell? ⟨wo.heap.size, c * 3, none⟩ = some (.int .i32 0) := arcIn_cell hI 0 (by omega) hcL
            have d1 : wr.cell? ⟨wo.heap.size, c * 3 + 1, none⟩ = some (.int .i32 0) := arcIn_cell hI 1 (by omega) hcL
            have d2 : wr.cell? ⟨wo.heap.size, c * 3 + 2, none⟩ = some (.int .i32 0) := arcIn_cell hI 2 (by omega) hcL
            have f0 := hI.row.frozen (c * 3)
            have f1 := hI.row.frozen (c * 3 + 1)
            have f2 := hI.row.frozen (c * 3 + 2)
            have l0 := hI.row.lt
            clear g2 g1 g hO
            go_wp2
            go_region_held3 (fun w' => w'.cell? ⟨RB r, RO r + c * 3, none⟩ = some (.int .i32 (T r c)) ∧ w'.cell? ⟨RB r, RO r + c * 3 + 1, none⟩ = some (.int .i32 (H r c)) ∧ w'.cell? ⟨RB r, RO r + c * 3 + 2, none⟩ = some (.int .i32 (I r c))) (go_keep) (first | (go_at_call 59; refine (make59 _ _ _ _).mono ?_; rintro e w' ⟨rfl, rfl⟩))
            go_wp2
            go_roundg (L r - (c + 1))
            case measure => go_light; omega
            case rel => go_light; exact ⟨c + 1, by omega, rfl, by simp, arcIn_step hI _⟩
          · have hcz : ¬ (c : Int) < (L r : Int) := by omega
            obtain rfl : c = L r := by omega
            have hN : w.heap.size < wo.heap.size := hO.list.lt
            have d0 : wr.cell? ⟨w.heap.size, r, none⟩ = some (listCell A L f r r) := by rw [hI.since.cell (by exact hN)]; exact hO.list.cell hrG
            have d1 : listCell A L f r r = .slice none 0 0 := by simp [listCell]
            rw [d1] at d0
            have f0 : wr.frozen? ⟨w.heap.size, r, none⟩ = false := by rw [hI.since.frozen (by exact hN)]; exact hO.list.frozen r
            have Hstep := arcOut_step hO hI (by rw [HA.out]; rfl)
            clear g g1 hO d1
            go_wp2
            go_roundg (G - (r + 1))
            case measure => go_light; omega
            case rel => go_light; exact ⟨r + 1, _, by omega, rfl, by simp, Hstep⟩
    · have hrz : ¬ (r : Int) < (G : Int) := by omega
      obtain rfl : r = G := by omega
      have HD := fun e => arcs_done g hO (e := e)
      clear g hO
      go_wp2_with (go_at_call 60; refine (list60 _ _ _ _).mono ?_; rintro e w' ⟨rfl, rfl⟩)
      go_ret
      exact HD _ rfl

/-- .. and of nil blocks. -/
theorem arcs39_nil (w : World) (Gc : Nat) (L : Nat → Nat) (T H I : Nat → Nat → Int) :
    Calls Try.prog 39 #[.slice none 0 Gc] w fun e w' => ArcsMade w w' e 0 L T H I := by
  have h1 := fun w a n c => run_neq_slice_nil_any (P := Try.prog) w 68 80 a n c 0 0 Try.underlying68
  go_enter Try.func39, Try.ntmps39
  go_wp2
  refine wp_loop_rounds 1 ?_
  rw [rounds_succ]
  go_wp2_with (go_at_call 60; refine (list60 _ _ _ _).mono ?_; rintro e w' ⟨rfl, rfl⟩)
  go_ret
  exact ⟨w.heap.size, none, fun _ => none, fun _ => 0, fun _ => 0, fun _ => 0, 0, 0, rfl, by simp, ⟨fun h => absurd h (Nat.not_lt_zero _), fun r h => absurd h (Nat.not_lt_zero _), fun r h => absurd h (Nat.not_lt_zero _), fun r h => absurd h (Nat.not_lt_zero _), fun r h => absurd h (Nat.not_lt_zero _), fun r h => absurd h (Nat.not_lt_zero _), fun r h => absurd h (Nat.not_lt_zero _), fun r _ h => absurd h (Nat.not_lt_zero _), fun r h => absurd h (Nat.not_lt_zero _), by omega⟩, (World.Since.refl _ _).alloc (Nat.le_refl _) _⟩

/-- Either way. -/
theorem arcs39_any {w : World} {ga : Option Addr} {G Gc : Nat} {A : Nat → Option Addr} {L C RB RO : Nat → Nat} {T H I : Nat → Nat → Int} {gb go : Nat}
    (g : GridAt w ga G A L C RB RO T H I gb go) (fit : SizeOK G L) :
    Calls Try.prog 39 #[.slice ga G Gc] w fun e w' => ArcsMade w w' e G L T H I := by
  by_cases hga : ga = none
  · subst hga
    have : G = 0 := by
      by_cases h : 0 < G
      · exact absurd (g.ga h) (by simp)
      · omega
    subst this
    exact arcs39_nil w Gc L T H I
  · exact arcs39 g fit hga
end Go.Proofs.Qxb6601390a
