/-
  ZZMakeViewWriteB1 (49), zzWritesIn_b1 (15).
-/
import Derived.Test.Qxb6601390aLIn
namespace Go.Proofs.Qxb6601390a
open Go.RowKit Plain

set_option maxHeartbeats 400000 in
theorem make49 (x : Int) (y : Bool) (w : World) :
    Calls Try.prog 49 #[.int .i32 x, .bool y] w fun e w' => e = .returned (.agg #[.int .i32 x, .bool y]) ∧ w' = w.alloc (.cells #[.int .i32 x, .bool y] 93) := by
  go_enter Try.func49, Try.ntmps49
  go_wp2
  exact bodyPost_ret (v := .agg #[.int .i32 x, .bool y]) (by simp [results, Try.results49, go_sem]) rfl ⟨rfl, rfl⟩

theorem Try.info91 : (Try.prog.info? 91).map (fun i => (i.zero, i.size, i.bytes)) = some (some (.slice none 0 0), 1, 24) := by kernel_rfl
theorem Try.info93 : (Try.prog.info? 93).map (fun i => (i.zero, i.size, i.bytes)) = some (some (.agg #[.int .i32 0, .bool false]), 2, 8) := by kernel_rfl
theorem run_make93 (n : Nat) (hn : n ≤ 1048576) (w : World) :
    (Instr.makeSlice 91 (.int .i64 (n : Int)) (.int .i64 (n : Int))).run Try.prog w = .ok (.slice (some ⟨w.heap.size, 0, none⟩) n n) (w.alloc (.cells (madeCells #[.int .i32 0, .bool false] (n * 2)) 93)) := by
  obtain ⟨i, hi, hzz⟩ := Option.map_eq_some_iff.1 Try.info93
  simp only [Prod.mk.injEq] at hzz
  obtain ⟨hz, hs, hb⟩ := hzz
  have hr := run_make (P := Try.prog) w 91 93 i _ Try.underlying91 hi hz .i64 .i64 n n (by omega) (Int.le_refl _) (by rw [hb]; omega) (by omega)
  simp only [Int.toNat_natCast, hs] at hr
  exact hr

/-- Two cells an element. -/
def duo (A B : Nat → Value) (q : Nat) : Value := if q % 2 = 0 then A (q / 2) else B (q / 2)
theorem duo0 (A B : Nat → Value) (i : Nat) : duo A B (i * 2) = A i := by
  have h2 : (i * 2) / 2 = i := by omega
  simp [duo, h2]
theorem duo1 (A B : Nat → Value) (i : Nat) : duo A B (i * 2 + 1) = B i := by
  have h1 : (i * 2 + 1) % 2 = 1 := by omega
  have h2 : (i * 2 + 1) / 2 = i := by omega
  simp [duo, h1, h2]
theorem duo_made (w : World) (n : Nat) (t : TypeId) (x y : Value) : (w.alloc (.cells (madeCells #[x, y] (n * 2)) t)).rowIs w.heap.size t (n * 2) (duo (fun _ => x) (fun _ => y)) := by
  have := World.rowIs_alloc w (madeCells #[x, y] (n * 2)) t (duo (fun _ => x) (fun _ => y)) (fun i hi => by
    rw [size_madeCells] at hi
    have : i % 2 = 0 ∨ i % 2 = 1 := by omega
    simp only [madeCells, Array.getElem?_map, Array.getElem?_range, hi, if_true, Option.map_some, duo]
    rcases this with e | e <;> simp [e])
  rwa [size_madeCells] at this

structure PIn (wo wi : World) (n : Nat) (V : Nat → Int) (F : Nat → Bool) (c : Nat) : Prop where
  since : wo.Since wo.heap.size wi
  row : wi.rowIs wo.heap.size 93 (n * 2) (duo (fun j => .int .i32 (if j < c then V j else 0)) (fun j => .bool (if j < c then F j else false)))
theorem pIn_start (wo : World) (n : Nat) (V : Nat → Int) (F : Nat → Bool) : PIn wo (wo.alloc (.cells (madeCells #[.int .i32 0, .bool false] (n * 2)) 93)) n V F 0 :=
  ⟨(World.Since.refl _ _).alloc (Nat.le_refl _) _, (duo_made wo n 93 _ _).congr (fun q _ => by simp [duo])⟩
theorem pIn_step {wo wr : World} {n : Nat} {V : Nat → Int} {F : Nat → Bool} {c : Nat} (h : PIn wo wr n V F c) (o : Obj) :
    PIn wo (((wr.setCell ⟨wo.heap.size, c * 2, none⟩ (.int .i32 (V c))).setCell ⟨wo.heap.size, c * 2 + 1, none⟩ (.bool (F c))).alloc o).drew n V F (c + 1) := by
  have s2 := (h.since.setCell (a := ⟨wo.heap.size, c * 2, none⟩) (Nat.le_refl _) (.int .i32 (V c))).setCell (a := ⟨wo.heap.size, c * 2 + 1, none⟩) (Nat.le_refl _) (.bool (F c))
  refine ⟨(s2.alloc s2.size _).drew, ((((h.row.set (c * 2) _).set (c * 2 + 1) _).alloc _).drew).congr fun q _ => ?_⟩
  by_cases e1 : q = c * 2 + 1
  · rw [if_pos e1]; subst e1; rw [duo1, if_pos (by omega)]
  rw [if_neg e1]
  by_cases e0 : q = c * 2
  · rw [if_pos e0]; subst e0; rw [duo0, if_pos (by omega)]
  rw [if_neg e0]
  have hk : q / 2 ≠ c := by omega
  have e2 : (q / 2 < c + 1) = (q / 2 < c) := by simp; omega
  simp only [duo, e2]
theorem pIn_cell {wo wr : World} {n : Nat} {V : Nat → Int} {F : Nat → Bool} {c : Nat} (h : PIn wo wr n V F c) (hc : c < n) : wr.cell? ⟨wo.heap.size, c * 2, none⟩ = some (.int .i32 0) ∧ wr.cell? ⟨wo.heap.size, c * 2 + 1, none⟩ = some (.bool false) := by
  refine ⟨?_, ?_⟩
  · rw [h.row.cell (by omega), duo0]; simp
  · rw [h.row.cell (by omega), duo1]; simp

/-- The list's own cells, r rows done. -/
def wCell (A : Nat → Option Addr) (L : Nat → Nat) (f : Nat → Nat) (r j : Nat) : Value :=
  if j < r ∧ (A j).isSome = true then .slice (some ⟨f j, 0, none⟩) (L j) (L j) else .slice none 0 0
structure POut (w wr : World) (e : Wd) (A : Nat → Option Addr) (f : Nat → Nat) (r : Nat) : Prop where
  since : w.Since w.heap.size wr
  list : wr.rowIs w.heap.size 91 e.n (wCell A e.l f r)
  done : ∀ j, j < r → (A j).isSome = true → w.heap.size < f j ∧ wr.rowIs (f j) 93 (e.l j * 2) (duo (fun i => .int .i32 (if i < e.l j then e.v j i else 0)) (fun i => .bool (if i < e.l j then e.f j i else false)))
theorem pOut_start (w : World) (e : Wd) (A : Nat → Option Addr) (f : Nat → Nat) :
    POut w (w.alloc (.cells (madeCells #[.slice none 0 0] e.n) 91)) e A f 0 :=
  ⟨(World.Since.refl _ _).alloc (Nat.le_refl _) _, (World.rowIs_made w _ e.n 91).congr (fun j _ => by simp [wCell]), fun j hj => absurd hj (Nat.not_lt_zero _)⟩
theorem pOut_skip {w wr : World} {e : Wd} {A : Nat → Option Addr} {f : Nat → Nat} {r : Nat} (h : POut w wr e A f r) (hA : A r = none) : POut w wr e A f (r + 1) := by
  refine ⟨h.since, h.list.congr (fun j _ => ?_), fun j hj hA' => ?_⟩
  · simp only [wCell]
    by_cases g : j = r
    · subst g; simp [hA]
    · by_cases hlt : j < r
      · simp [hlt, Nat.lt_succ_of_lt hlt]
      · have : ¬ j < r + 1 := by omega
        simp [hlt, this]
  · by_cases g : j = r
    · subst g; rw [hA] at hA'; cases hA'
    · exact h.done j (by omega) hA'
theorem pOut_step {w wo wi : World} {e : Wd} {A : Nat → Option Addr} {f : Nat → Nat} {r : Nat} (h : POut w wo e A f r) (hi : PIn wo wi (e.l r) (e.v r) (e.f r) (e.l r)) (hA : (A r).isSome = true) :
    POut w (wi.setCell ⟨w.heap.size, r, none⟩ (.slice (some ⟨wo.heap.size, 0, none⟩) (e.l r) (e.l r))) e A (fun j => if j = r then wo.heap.size else f j) (r + 1) := by
  have hN : w.heap.size < wo.heap.size := h.list.lt
  have hs : w.Since w.heap.size wi := sinceC h.since hi.since
  refine ⟨hs.setCell (Nat.le_refl _) _, (((h.list.of_block (hi.since.block _ hN)).set r _)).congr (fun j _ => ?_), fun j hj hA' => ?_⟩
  · simp only [wCell]
    by_cases g : j = r
    · subst g; simp [hA]
    · rw [if_neg g]
      by_cases hlt : j < r
      · simp [hlt, Nat.lt_succ_of_lt hlt, g]
      · have : ¬ j < r + 1 := by omega
        simp [hlt, this]
  · by_cases g : j = r
    · subst g
      simp only [if_true]
      exact ⟨hN, hi.row.setOther (by show wo.heap.size ≠ w.heap.size; omega) _⟩
    · simp only [if_neg g]
      obtain ⟨h1, h2⟩ := h.done j (by omega) hA'
      exact ⟨h1, (h2.of_block (hi.since.block _ h2.lt)).setOther (by show f j ≠ w.heap.size; omega) _⟩

/-- WHAT zzWritesIn_b1 LEAVES: the same writes, in new memory. -/
def WritesMade (w w' : World) (r : Ending) (e : Wd) : Prop :=
  ∃ f c, r = .returned (.slice f.a e.n c) ∧ w.Since w.heap.size w' ∧ WritesAt w' e f ∧ w.heap.size ≤ f.b ∧ ∀ t, t < e.n → 0 < e.l t → w.heap.size ≤ f.rb t

theorem writes_done {w wr : World} {e : Wd} {m : Wm} (hw : WritesAt w e m) {f : Nat → Nat} (h : POut w wr e m.ra f e.n) {r : Ending} (hr : r = .returned (.slice (some ⟨w.heap.size, 0, none⟩) e.n e.n)) : WritesMade w wr r e := by
  refine ⟨⟨some ⟨w.heap.size, 0, none⟩, w.heap.size, 0, fun j => if (m.ra j).isSome = true then some ⟨f j, 0, none⟩ else none, fun j => if (m.ra j).isSome = true then e.l j else 0, f, fun _ => 0⟩, e.n, hr, h.since, ?_, Nat.le_refl _, fun t ht hl => ?_⟩
  · have nz : ∀ t, t < e.n → ∀ j, j < e.l t → (m.ra t).isSome = true := fun t ht j hj => by rw [hw.ra t ht j hj]; rfl
    have nn : ∀ t, t < e.n → ¬ (m.ra t).isSome = true → e.l t = 0 := fun t ht g => hw.nil t ht (by cases hh : m.ra t with
      | none => rfl
      | some x => rw [hh] at g; exact absurd rfl g)
    refine ⟨fun _ => rfl, fun t ht => ?_, fun t ht hn => ?_, fun t ht j hj => by simp [nz t ht j hj], fun t ht j hj => ?_, fun t ht j hj => ?_, hw.bv, hw.bl, hw.bN⟩
    · show wr.cell? ⟨w.heap.size, 0 + t, none⟩ = some (.slice (if (m.ra t).isSome = true then some ⟨f t, 0, none⟩ else none) (e.l t) (if (m.ra t).isSome = true then e.l t else 0))
      rw [Nat.zero_add, h.list.cell ht, wCell]
      by_cases g : (m.ra t).isSome = true
      · simp [ht, g]
      · simp [g, nn t ht g]
    · have hn' : (if (m.ra t).isSome = true then some (⟨f t, 0, none⟩ : Addr) else none) = none := hn
      by_cases g : (m.ra t).isSome = true
      · simp [g] at hn'
      · exact nn t ht g
    · show wr.cell? ⟨f t, 0 + j * 2, none⟩ = some (.int .i32 (e.v t j))
      rw [Nat.zero_add, (h.done t ht (nz t ht j hj)).2.cell (by omega), duo0, if_pos hj]
    · show wr.cell? ⟨f t, 0 + j * 2 + 1, none⟩ = some (.bool (e.f t j))
      rw [Nat.zero_add, (h.done t ht (nz t ht j hj)).2.cell (by omega), duo1, if_pos hj]
  · have := (h.done t ht (by rw [hw.ra t ht 0 hl]; rfl)).1
    show w.heap.size ≤ f t
    omega

set_option maxHeartbeats 1600000 in
set_option maxRecDepth 100000 in
theorem writesIn15 {w : World} {e : Wd} {m : Wm} {c1 : Nat} (hw : WritesAt w e m) (hn : e.n ≤ 1048576) (hl : ∀ t, t < e.n → e.l t ≤ 1048576) (hna : m.a ≠ none) :
    Calls Try.prog 15 #[.slice m.a e.n c1] w fun r w' => WritesMade w w' r e := by
  have h1 := fun w a n c => Lib.run_eql_slice_nil (P := Try.prog) w 23 84 a n c 0 0 Try.underlying23
  have h2 := fun w a n c => Lib.run_eql_slice_nil (P := Try.prog) w 84 86 a n c 0 0 Try.underlying84
  have hmk := run_make_row' (P := Try.prog) 39 91 (.slice none 0 0) 24 Try.underlying39 Try.info91 rfl .i64 .i64 e.n (by omega) (by omega)
  obtain ⟨a0, Ha0⟩ : ∃ a0, m.a = some a0 := by
    cases h : m.a with
    | none => exact absurd h hna
    | some a => exact ⟨a, rfl⟩
  rw [Ha0]
  have Hwa : Aside (m.a = some a0) := Ha0
  have HW : Aside (WritesAt w e m) := hw
  have HL : Aside (∀ t, t < e.n → e.l t ≤ 1048576) := hl
  clear hw hl Ha0 hna
  go_enter Try.func15, Try.ntmps15
  go_wp2
  clear hmk h1
  go_loopg [4] e.n (fun g s4 wr => ∃ (r : Nat) (f : Nat → Nat), r ≤ e.n ∧ g = e.n - r ∧ s4 = .int .i64 (r : Int) ∧ POut w wr e m.ra f r)
  case atStart => exact ⟨0, fun _ => 0, Nat.zero_le _, rfl, rfl, pOut_start w e _ _⟩
  case round =>
    obtain ⟨r, f, hr, rfl, rfl, hO⟩ := hrel
    by_cases hrn : r < e.n
    · have hrz : (r : Int) < (e.n : Int) := by omega
      obtain rfl : a0 = ⟨m.b, m.o, none⟩ := by have := Hwa.out.symm.trans (HW.out.addr (by omega)); simpa using this
      have c0 := cell_later hO.since (Nat.le_refl _) (HW.out.row r hrn)
      have hL := HL.out r hrn
      have hmk := run_make93 (e.l r) hL
      have hbm := World.block_lt_of_cell? _ _ (HW.out.row r hrn)
      simp only at hbm
      cases hAr : m.ra r with
      | none =>
        rw [hAr] at c0
        have HA : Aside (m.ra r = none) := hAr
        clear hAr hmk
        go_wp2
        go_roundg (e.n - (r + 1))
        case measure => go_light; omega
        case rel => go_light; exact ⟨r + 1, f, by omega, rfl, by simp, pOut_skip hO HA.out⟩
      | some ar =>
        rw [hAr] at c0
        have HA : Aside (m.ra r = some ar) := hAr
        clear hAr
        go_wp2
        clear c0 hmk h2
        obtain ⟨wo, rfl⟩ : ∃ wo : World, wo = wr := ⟨_, rfl⟩
        have hN : w.heap.size < wo.heap.size := hO.list.lt
        go_loopg [6] (e.l r) (fun g s6 wi => ∃ c : Nat, c ≤ e.l r ∧ g = e.l r - c ∧ s6 = .int .i64 (c : Int) ∧ PIn wo wi (e.l r) (e.v r) (e.f r) c)
        case atStart => exact ⟨0, Nat.zero_le _, rfl, rfl, pIn_start wo _ _ _⟩
        case round =>
          obtain ⟨c, hc, rfl, rfl, hI⟩ := hrel
          have sI := sinceC hO.since hI.since
          have c0 := cell_later sI (Nat.le_refl _) (HW.out.row r hrn)
          rw [HA.out] at c0
          by_cases hcl : c < e.l r
          · have hcz : (c : Int) < (e.l r : Int) := by omega
            obtain rfl : ar = ⟨m.rb r, m.ro r, none⟩ := by have := HA.out.symm.trans (HW.out.ra r hrn c hcl); simpa using this
            have q1 := cell_later sI (Nat.le_refl _) (HW.out.cv r hrn c hcl)
            have q2 := cell_later sI (Nat.le_refl _) (HW.out.cf r hrn c hcl)
            have hb2 := World.block_lt_of_cell? _ _ (HW.out.cv r hrn c hcl)
            simp only at hb2
            have n1 : ¬ wo.heap.size = m.rb r := by omega
            have n2 : ¬ wo.heap.size = m.b := by omega
            obtain ⟨d0, d1⟩ := pIn_cell hI hcl
            have f0 := hI.row.frozen (c * 2)
            have f1 := hI.row.frozen (c * 2 + 1)
            have l0 := hI.row.lt
            clear hO sI
            go_wp2
            go_region_held3 (fun w' => w'.cell? ⟨m.b, m.o + r, none⟩ = some (.slice (some ⟨m.rb r, m.ro r, none⟩) (e.l r) (m.rc r)) ∧ w'.cell? ⟨m.rb r, m.ro r + c * 2, none⟩ = some (.int .i32 (e.v r c)) ∧ w'.cell? ⟨m.rb r, m.ro r + c * 2 + 1, none⟩ = some (.bool (e.f r c))) (go_keep) (first | (go_at_call 49; refine (make49 _ _ _).mono ?_; rintro e w' ⟨rfl, rfl⟩))
            go_wp2
            go_roundg (e.l r - (c + 1))
            case measure => go_light; omega
            case rel => go_light; exact ⟨c + 1, by omega, rfl, by simp, pIn_step hI _⟩
          · have hcz : ¬ (c : Int) < (e.l r : Int) := by omega
            obtain rfl : c = e.l r := by omega
            have d0 : wr.cell? ⟨w.heap.size, r, none⟩ = some (wCell m.ra e.l f r r) := by rw [hI.since.cell (by exact hN)]; exact hO.list.cell hrn
            have d1 : wCell m.ra e.l f r r = .slice none 0 0 := by simp [wCell]
            rw [d1] at d0
            have f0 : wr.frozen? ⟨w.heap.size, r, none⟩ = false := by rw [hI.since.frozen (by exact hN)]; exact hO.list.frozen r
            have Hstep := pOut_step hO hI (by rw [HA.out]; rfl)
            clear hO d1 sI
            go_wp2
            go_roundg (e.n - (r + 1))
            case measure => go_light; omega
            case rel => go_light; exact ⟨r + 1, _, by omega, rfl, by simp, Hstep⟩
    · have hrz : ¬ (r : Int) < (e.n : Int) := by omega
      obtain rfl : r = e.n := by omega
      go_wp2
      go_ret
      exact writes_done HW.out hO rfl
end Go.Proofs.Qxb6601390a
