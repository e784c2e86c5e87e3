/-
  ZZMakeViewRunB1 (50), zzRunsIn_b1 (16), ZZMakeViewsForLinkRunsB1 (13); nil versions, writes and runs.
-/
import Derived.Test.Qxb6601390aLIn2
import Derived.Test.Qxb6601390aLIn3
namespace Go.Proofs.Qxb6601390a
open Go.RowKit Plain

set_option maxHeartbeats 400000 in
theorem make50 (x y z : Int) (a : Option Addr) (n c : Nat) (w : World) :
    Calls Try.prog 50 #[.int .i32 x, .int .i32 y, .int .i32 z, .slice a n c] w fun e w' => e = .returned (.agg #[.int .i32 x, .int .i32 y, .int .i32 z, .slice a n c]) ∧ w' = w.alloc (.cells #[.int .i32 x, .int .i32 y, .int .i32 z, .slice a n c] 56) := by
  go_enter Try.func50, Try.ntmps50
  go_wp2
  exact bodyPost_ret (v := .agg #[.int .i32 x, .int .i32 y, .int .i32 z, .slice a n c]) (by simp [results, Try.results50, go_sem]) rfl ⟨rfl, rfl⟩

theorem Try.info56 : (Try.prog.info? 56).map (fun i => (i.zero, i.size, i.bytes)) = some (some (.agg #[.int .i32 0, .int .i32 0, .int .i32 0, .slice none 0 0]), 4, 40) := by kernel_rfl
theorem run_make56 (n : Nat) (hn : n ≤ 1048576) (w : World) :
    (Instr.makeSlice 41 (.int .i64 (n : Int)) (.int .i64 (n : Int))).run Try.prog w = .ok (.slice (some ⟨w.heap.size, 0, none⟩) n n) (w.alloc (.cells (madeCells #[.int .i32 0, .int .i32 0, .int .i32 0, .slice none 0 0] (n * 4)) 56)) := by
  obtain ⟨i, hi, hzz⟩ := Option.map_eq_some_iff.1 Try.info56
  simp only [Prod.mk.injEq] at hzz
  obtain ⟨hz, hs, hb⟩ := hzz
  have hr := run_make (P := Try.prog) w 41 56 i _ Try.underlying41 hi hz .i64 .i64 n n (by omega) (Int.le_refl _) (by rw [hb]; omega) (by omega)
  simp only [Int.toNat_natCast, hs] at hr
  exact hr

/-- The runs as the analysis package holds them. -/
structure ROwn (w : World) (d : Rd) (gb : Nat) (ra : Nat → Option Addr) (rc rb : Nat → Nat) : Prop where
  row : w.rowIs gb 56 (d.n * 4) (quad (fun i => .int .i32 (d.it i)) (fun i => .int .i32 (d.fi i)) (fun i => .int .i32 (d.la i)) (fun i => .slice (ra i) (d.sl i) (rc i)))
  rd : ∀ i, i < d.n → IntsAt .i32 w (ra i) (d.sl i) (d.s i) (rb i) 0 ∧ gb < rb i

structure RFill (w wr : World) (d : Rd) (ra : Nat → Option Addr) (rc rb : Nat → Nat) (c : Nat) : Prop where
  since : w.Since w.heap.size wr
  row : wr.rowIs w.heap.size 56 (d.n * 4) (quad (fun i => .int .i32 (if i < c then d.it i else 0)) (fun i => .int .i32 (if i < c then d.fi i else 0)) (fun i => .int .i32 (if i < c then d.la i else 0)) (fun i => if i < c then .slice (ra i) (d.sl i) (rc i) else .slice none 0 0))
  rd : ∀ i, i < c → IntsAt .i32 wr (ra i) (d.sl i) (d.s i) (rb i) 0 ∧ w.heap.size < rb i

theorem rfill_step {w wr w5 : World} {d : Rd} {ra : Nat → Option Addr} {rc rb : Nat → Nat} {c : Nat} (h : RFill w wr d ra rc rb c) (s5 : wr.Since wr.heap.size w5) {a' : Option Addr} {b' c' : Nat}
    (hx : IntsAt .i32 w5 a' (d.sl c) (d.s c) b' 0) (hb : wr.heap.size ≤ b') (o : Obj) :
    RFill w (((((w5.setCell ⟨w.heap.size, c * 4, none⟩ (.int .i32 (d.it c))).setCell ⟨w.heap.size, c * 4 + 1, none⟩ (.int .i32 (d.fi c))).setCell ⟨w.heap.size, c * 4 + 2, none⟩ (.int .i32 (d.la c))).setCell ⟨w.heap.size, c * 4 + 3, none⟩ (.slice a' (d.sl c) c')).alloc o)
      d (updF ra c a') (updF rc c c') (updF rb c b') (c + 1) := by
  have hlt : w.heap.size < wr.heap.size := h.row.lt
  have sw : w.Since w.heap.size w5 := sinceC h.since s5
  have s6 := (((sw.setCell (a := ⟨w.heap.size, c * 4, none⟩) (Nat.le_refl _) (.int .i32 (d.it c))).setCell (a := ⟨w.heap.size, c * 4 + 1, none⟩) (Nat.le_refl _) (.int .i32 (d.fi c))).setCell (a := ⟨w.heap.size, c * 4 + 2, none⟩) (Nat.le_refl _) (.int .i32 (d.la c))).setCell (a := ⟨w.heap.size, c * 4 + 3, none⟩) (Nat.le_refl _) (.slice a' (d.sl c) c')
  refine ⟨s6.alloc s6.size _, ?_, fun i hi => ?_⟩
  · have r := (quad_set (rowLater h.row s5 (Nat.le_refl _)) c (.int .i32 (d.it c)) (.int .i32 (d.fi c)) (.int .i32 (d.la c)) (.slice a' (d.sl c) c'))
    refine (quad_congr r fun i _ => ?_).alloc o
    simp only [upd, updF]
    by_cases e : i = c
    · subst e; simp
    · have : (i < c + 1) = (i < c) := by simp; omega
      simp [e, this]
  · have key : ∀ (x : Nat) (k : Nat) (v : Value), w.heap.size < x → w5.cell? ⟨x, 0 + k, none⟩ = some v → (((((w5.setCell ⟨w.heap.size, c * 4, none⟩ (.int .i32 (d.it c))).setCell ⟨w.heap.size, c * 4 + 1, none⟩ (.int .i32 (d.fi c))).setCell ⟨w.heap.size, c * 4 + 2, none⟩ (.int .i32 (d.la c))).setCell ⟨w.heap.size, c * 4 + 3, none⟩ (.slice a' (d.sl c) c')).alloc o).cell? ⟨x, 0 + k, none⟩ = some v :=
      fun x k v hx hv => cell_four o (by omega) hv
    simp only [updF]
    by_cases e : i = c
    · subst e
      simp only [if_true]
      exact ⟨⟨hx.addr, fun k hk => key _ _ _ (by omega) (hx.cell k hk)⟩, by omega⟩
    · simp only [if_neg e]
      obtain ⟨h1, h2⟩ := h.rd i (by omega)
      exact ⟨⟨h1.addr, fun k hk => key _ _ _ h2 (cell_later s5 (Nat.le_refl _) (h1.cell k hk))⟩, h2⟩

/-- WHAT zzRunsIn_b1 LEAVES. -/
def RunsMade (w w' : World) (e : Ending) (d : Rd) : Prop :=
  w.Since w.heap.size w' ∧ ((d.n = 0 ∧ e = .returned (.slice none 0 0)) ∨ ∃ gb ra rc rb, e = .returned (.slice (some ⟨gb, 0, none⟩) d.n d.n) ∧ w.heap.size ≤ gb ∧ ROwn w' d gb ra rc rb)

set_option maxHeartbeats 1600000 in
set_option maxRecDepth 100000 in
theorem runsIn16 {w : World} {d : Rd} {m : Rm} {c1 : Nat} (hv : RunsAt w d m) (hn : d.n ≤ 1048576) (hl : ∀ i, i < d.n → d.sl i ≤ 1048576) (hna : m.a ≠ none) :
    Calls Try.prog 16 #[.slice m.a d.n c1] w fun e' w' => RunsMade w w' e' d := by
  have h2 := fun w a n c => Lib.run_eql_slice_nil (P := Try.prog) w 24 58 a n c 0 0 Try.underlying24
  have hmk := run_make56 d.n hn
  obtain ⟨a0, Ha0⟩ : ∃ a0, m.a = some a0 := by
    cases h : m.a with
    | none => exact absurd h hna
    | some a => exact ⟨a, rfl⟩
  rw [Ha0]
  have Hva : Aside (m.a = some a0) := Ha0
  have HV : Aside (RunsAt w d m) := hv
  have HL : Aside (∀ i, i < d.n → d.sl i ≤ 1048576) := hl
  clear hv hl Ha0 hna
  go_enter Try.func16, Try.ntmps16
  go_wp2
  clear hmk h2
  go_loopg [4] d.n (fun g s4 wr => ∃ (c : Nat) (ra : Nat → Option Addr) (rc rb : Nat → Nat), c ≤ d.n ∧ g = d.n - c ∧ s4 = .int .i64 (c : Int) ∧ RFill w wr d ra rc rb c)
  case atStart => exact ⟨0, fun _ => none, fun _ => 0, fun _ => 0, Nat.zero_le _, rfl, rfl, ⟨(World.Since.refl _ _).alloc (Nat.le_refl _) _, quad_congr (quad_made w d.n 56 _ _ _ _) (fun i _ => by simp), fun i hi => absurd hi (Nat.not_lt_zero _)⟩⟩
  case round =>
    obtain ⟨c, ra, rc, rb, hc, rfl, rfl, hF⟩ := hrel
    by_cases hcn : c < d.n
    · have hcz : (c : Int) < (d.n : Int) := by omega
      obtain rfl : a0 = ⟨m.b, m.o, none⟩ := by have := Hva.out.symm.trans (HV.out.addr (by omega)); simpa using this
      have v1 := HV.out.later hF.since (Nat.le_refl _)
      have q0 := v1.ci c hcn
      have q1 := v1.cf c hcn
      have q2 := v1.cl c hcn
      have q3 := v1.cs c hcn
      have HI : Aside (IntsAt .i32 wr (m.ra c) (d.sl c) (d.s c) (m.rb c) (m.ro c)) := ⟨fun h => v1.ra c hcn 0 h, fun k hk => v1.rr c hcn k hk⟩
      have HS : Aside (wr.cell? ⟨m.b, m.o + c * 4, none⟩ = some (.int .i32 (d.it c)) ∧ wr.cell? ⟨m.b, m.o + c * 4 + 1, none⟩ = some (.int .i32 (d.fi c)) ∧ wr.cell? ⟨m.b, m.o + c * 4 + 2, none⟩ = some (.int .i32 (d.la c)) ∧ wr.cell? ⟨m.b, m.o + c * 4 + 3, none⟩ = some (.slice (m.ra c) (d.sl c) (m.rc c))) := ⟨q0, q1, q2, q3⟩
      have hbm := World.block_lt_of_cell? _ _ (HV.out.ci c hcn)
      simp only at hbm
      clear q0 q1 q2 q3
      have hne1 : ¬ w.heap.size = m.b := by omega
      clear v1
      go_wp2
      have hSw := HS.out
      go_region_held3 (fun w' => w'.cell? ⟨m.b, m.o + c * 4, none⟩ = some (.int .i32 (d.it c)) ∧ w'.cell? ⟨m.b, m.o + c * 4 + 1, none⟩ = some (.int .i32 (d.fi c)) ∧ w'.cell? ⟨m.b, m.o + c * 4 + 2, none⟩ = some (.int .i32 (d.la c)) ∧ w'.cell? ⟨m.b, m.o + c * 4 + 3, none⟩ = some (.slice (m.ra c) (d.sl c) (m.rc c))) (first | assumption | go_keep)
        (first | (go_at_call 30; refine (clone30 (w := wr.drew) ⟨HI.out.addr, HI.out.cell⟩ (HL.out c hcn)).mono ?_; rintro e w5 ⟨a', b', c', rfl, s5, hx, hb⟩; have s5' : wr.Since wr.heap.size w5 := ⟨s5.os, s5.tape, s5.output, s5.size, s5.block⟩; have hS5 := And.intro (cell_later s5' (Nat.le_refl _) HS.out.1) (And.intro (cell_later s5' (Nat.le_refl _) HS.out.2.1) (And.intro (cell_later s5' (Nat.le_refl _) HS.out.2.2.1) (cell_later s5' (Nat.le_refl _) HS.out.2.2.2))); have hr5 := rowLater hF.row s5' (Nat.le_refl _); obtain ⟨d0, d1, d2, d3⟩ := quad_cells hr5 hcn; have f0 := hr5.frozen (c * 4); have f1 := hr5.frozen (c * 4 + 1); have f2 := hr5.frozen (c * 4 + 2); have f3 := hr5.frozen (c * 4 + 3); have l5 := hr5.lt; simp only [Nat.lt_irrefl, if_false] at d0 d1 d2 d3; have HST := fun o => rfill_step hF s5' (c' := c') hx hb o; clear hr5) | (go_at_call 50; refine (make50 _ _ _ _ _ _ _).mono ?_; rintro e w' ⟨rfl, rfl⟩))
      go_wp2
      go_roundg (d.n - (c + 1))
      case measure => go_light; omega
      case rel => go_light; exact ⟨c + 1, _, _, _, by omega, rfl, by simp, HST _⟩
    · have hcz : ¬ (c : Int) < (d.n : Int) := by omega
      obtain rfl : c = d.n := by omega
      go_wp2
      go_ret
      exact ⟨hF.since, .inr ⟨w.heap.size, ra, rc, rb, rfl, Nat.le_refl _, ⟨quad_congr hF.row (fun i hi => by simp [hi]), hF.rd⟩⟩⟩

set_option maxHeartbeats 400000 in
theorem runsIn16_nil (w : World) (c1 : Nat) (d : Rd) (h0 : d.n = 0) : Calls Try.prog 16 #[.slice none 0 c1] w fun e' w' => RunsMade w w' e' d := by
  have h2 := fun w a n c => Lib.run_eql_slice_nil (P := Try.prog) w 24 58 a n c 0 0 Try.underlying24
  have H0 : Aside (d.n = 0) := h0
  clear h0
  go_enter Try.func16, Try.ntmps16
  go_wp2
  go_ret
  exact ⟨World.Since.refl _ _, .inl ⟨H0.out, rfl⟩⟩
theorem runsIn16_any {w : World} {d : Rd} {m : Rm} {c1 : Nat} (hv : RunsAt w d m) (hn : d.n ≤ 1048576) (hl : ∀ i, i < d.n → d.sl i ≤ 1048576) :
    Calls Try.prog 16 #[.slice m.a d.n c1] w fun e' w' => RunsMade w w' e' d := by
  by_cases h : m.a = none
  · have h0 : d.n = 0 := by
      by_cases g : 0 < d.n
      · have := hv.addr g; rw [h] at this; cases this
      · omega
    rw [h, h0]
    exact runsIn16_nil w c1 d h0
  · exact runsIn16 hv hn hl h

set_option maxHeartbeats 400000 in
theorem versIn14_nil (w : World) (c1 : Nat) (d : Vd) (h0 : d.n = 0) : Calls Try.prog 14 #[.slice none 0 c1] w fun e' w' => VersMade w w' e' d := by
  have h2 := fun w a n c => Lib.run_eql_slice_nil (P := Try.prog) w 22 49 a n c 0 0 Try.underlying22
  have H0 : Aside (d.n = 0) := h0
  clear h0
  go_enter Try.func14, Try.ntmps14
  go_wp2
  go_ret
  exact ⟨none, 0, 0, fun _ => none, fun _ => 0, fun _ => 0, by rw [H0.out]; rfl, World.Since.refl _ _, fun h => by have := H0.out; omega⟩
theorem versIn14_any {w : World} {d : Vd} {m : Vm} {c1 : Nat} (hv : VersAt w d m) (hn : d.n ≤ 1048576) (hl : ∀ i, i < d.n → d.rl i ≤ 1048576) :
    Calls Try.prog 14 #[.slice m.a d.n c1] w fun e' w' => VersMade w w' e' d := by
  by_cases h : m.a = none
  · have h0 : d.n = 0 := by
      by_cases g : 0 < d.n
      · have := hv.addr g; rw [h] at this; cases this
      · omega
    rw [h, h0]
    exact versIn14_nil w c1 d h0
  · exact versIn14 hv hn hl h

set_option maxHeartbeats 400000 in
theorem writesIn15_nil (w : World) (c1 : Nat) (e : Wd) (h0 : e.n = 0) : Calls Try.prog 15 #[.slice none 0 c1] w fun e' w' => WritesMade w w' e' e := by
  have h2 := fun w a n c => Lib.run_eql_slice_nil (P := Try.prog) w 23 84 a n c 0 0 Try.underlying23
  have H0 : Aside (e.n = 0) := h0
  clear h0
  go_enter Try.func15, Try.ntmps15
  go_wp2
  go_ret
  have nz : ∀ t, ¬ t < e.n := fun t ht => by have := H0.out; omega
  exact ⟨⟨none, w.heap.size, 0, fun _ => none, fun _ => 0, fun _ => 0, fun _ => 0⟩, 0, by rw [H0.out]; rfl, World.Since.refl _ _, ⟨fun h => absurd h (nz _), fun t h => absurd h (nz _), fun t h => absurd h (nz _), fun t h => absurd h (nz _), fun t h => absurd h (nz _), fun t h => absurd h (nz _), fun t h => absurd h (nz _), fun t h => absurd h (nz _), by have := H0.out; omega⟩, Nat.le_refl _, fun t h => absurd h (nz _)⟩
theorem writesIn15_any {w : World} {e : Wd} {m : Wm} {c1 : Nat} (hw : WritesAt w e m) (hn : e.n ≤ 1048576) (hl : ∀ t, t < e.n → e.l t ≤ 1048576) :
    Calls Try.prog 15 #[.slice m.a e.n c1] w fun r w' => WritesMade w w' r e := by
  by_cases h : m.a = none
  · have h0 : e.n = 0 := by
      by_cases g : 0 < e.n
      · have := hw.addr g; rw [h] at this; cases this
      · omega
    rw [h, h0]
    exact writesIn15_nil w c1 e h0
  · exact writesIn15 hw hn hl h
end Go.Proofs.Qxb6601390a
