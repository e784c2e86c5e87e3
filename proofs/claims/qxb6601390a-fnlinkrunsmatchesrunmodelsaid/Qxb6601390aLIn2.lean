/-
  zzVersionsIn_b1 (14).
-/
import Derived.Test.Qxb6601390aLIn
namespace Go.Proofs.Qxb6601390a
open Go.RowKit Plain

/-- The versions as the analysis package holds them, N their links. -/
structure VOwn (w : World) (d : Vd) (N : Nat → Int) (vb : Nat) (ra : Nat → Option Addr) (rc rb : Nat → Nat) : Prop where
  row : w.rowIs vb 46 (d.n * 4) (quad (fun i => .int .i32 (d.wr i)) (fun i => .int .i32 (d.it i)) (fun i => .slice (ra i) (d.rl i) (rc i)) (fun i => .int .i32 (N i)))
  rd : ∀ i, i < d.n → IntsAt .i32 w (ra i) (d.rl i) (d.r i) (rb i) 0 ∧ vb < rb i

structure VFill (w wr : World) (d : Vd) (ra : Nat → Option Addr) (rc rb : Nat → Nat) (c : Nat) : Prop where
  since : w.Since w.heap.size wr
  row : wr.rowIs w.heap.size 46 (d.n * 4) (quad (fun i => .int .i32 (if i < c then d.wr i else 0)) (fun i => .int .i32 (if i < c then d.it i else 0)) (fun i => if i < c then .slice (ra i) (d.rl i) (rc i) else .slice none 0 0) (fun i => .int .i32 (if i < c then d.nx i else 0)))
  rd : ∀ i, i < c → IntsAt .i32 wr (ra i) (d.rl i) (d.r i) (rb i) 0 ∧ w.heap.size < rb i

def updF {α : Type} (f : Nat → α) (k : Nat) (x : α) (i : Nat) : α := if i = k then x else f i

theorem cell_four {w5 : World} {B o0 o1 o2 o3 : Nat} {v0 v1 v2 v3 : Value} (o : Obj) {x k : Nat} {v : Value} (hne : B ≠ x) (hv : w5.cell? ⟨x, k, none⟩ = some v) :
    (((((w5.setCell ⟨B, o0, none⟩ v0).setCell ⟨B, o1, none⟩ v1).setCell ⟨B, o2, none⟩ v2).setCell ⟨B, o3, none⟩ v3).alloc o).cell? ⟨x, k, none⟩ = some v := by
  have hb5 := World.block_lt_of_cell? _ _ hv
  simp only at hb5
  rw [World.cell?_alloc_lt _ _ _ (by simp; omega), World.cell?_setCell_far _ _ _ _ hne, World.cell?_setCell_far _ _ _ _ hne, World.cell?_setCell_far _ _ _ _ hne, World.cell?_setCell_far _ _ _ _ hne]
  exact hv

theorem vfill_step {w wr w5 : World} {d : Vd} {ra : Nat → Option Addr} {rc rb : Nat → Nat} {c : Nat} (h : VFill w wr d ra rc rb c) (s5 : wr.Since wr.heap.size w5) {a' : Option Addr} {b' c' : Nat}
    (hx : IntsAt .i32 w5 a' (d.rl c) (d.r c) b' 0) (hb : wr.heap.size ≤ b') (o : Obj) :
    VFill w (((((w5.setCell ⟨w.heap.size, c * 4, none⟩ (.int .i32 (d.wr c))).setCell ⟨w.heap.size, c * 4 + 1, none⟩ (.int .i32 (d.it c))).setCell ⟨w.heap.size, c * 4 + 2, none⟩ (.slice a' (d.rl c) c')).setCell ⟨w.heap.size, c * 4 + 3, none⟩ (.int .i32 (d.nx c))).alloc o)
      d (updF ra c a') (updF rc c c') (updF rb c b') (c + 1) := by
  have hlt : w.heap.size < wr.heap.size := h.row.lt
  have sw : w.Since w.heap.size w5 := sinceC h.since s5
  have s6 := (((sw.setCell (a := ⟨w.heap.size, c * 4, none⟩) (Nat.le_refl _) (.int .i32 (d.wr c))).setCell (a := ⟨w.heap.size, c * 4 + 1, none⟩) (Nat.le_refl _) (.int .i32 (d.it c))).setCell (a := ⟨w.heap.size, c * 4 + 2, none⟩) (Nat.le_refl _) (.slice a' (d.rl c) c')).setCell (a := ⟨w.heap.size, c * 4 + 3, none⟩) (Nat.le_refl _) (.int .i32 (d.nx c))
  refine ⟨s6.alloc s6.size _, ?_, fun i hi => ?_⟩
  · have r := (quad_set (rowLater h.row s5 (Nat.le_refl _)) c (.int .i32 (d.wr c)) (.int .i32 (d.it c)) (.slice a' (d.rl c) c') (.int .i32 (d.nx c)))
    refine (quad_congr r fun i _ => ?_).alloc o
    simp only [upd, updF]
    by_cases e : i = c
    · subst e; simp
    · have : (i < c + 1) = (i < c) := by simp; omega
      simp [e, this]
  · have key : ∀ (x : Nat) (k : Nat) (v : Value), w.heap.size < x → w5.cell? ⟨x, 0 + k, none⟩ = some v → (((((w5.setCell ⟨w.heap.size, c * 4, none⟩ (.int .i32 (d.wr c))).setCell ⟨w.heap.size, c * 4 + 1, none⟩ (.int .i32 (d.it c))).setCell ⟨w.heap.size, c * 4 + 2, none⟩ (.slice a' (d.rl c) c')).setCell ⟨w.heap.size, c * 4 + 3, none⟩ (.int .i32 (d.nx c))).alloc o).cell? ⟨x, 0 + k, none⟩ = some v :=
      fun x k v hx hv => cell_four o (by omega) hv
    simp only [updF]
    by_cases e : i = c
    · subst e
      simp only [if_true]
      exact ⟨⟨hx.addr, fun k hk => key _ _ _ (by omega) (hx.cell k hk)⟩, by omega⟩
    · simp only [if_neg e]
      obtain ⟨h1, h2⟩ := h.rd i (by omega)
      exact ⟨⟨h1.addr, fun k hk => key _ _ _ h2 (cell_later s5 (Nat.le_refl _) (h1.cell k hk))⟩, h2⟩

/-- WHAT zzVersionsIn_b1 LEAVES. -/
def VersMade (w w' : World) (e : Ending) (d : Vd) : Prop :=
  ∃ a c vb ra rc rb, e = .returned (.slice a d.n c) ∧ w.Since w.heap.size w' ∧ (0 < d.n → a = some ⟨vb, 0, none⟩ ∧ w.heap.size ≤ vb ∧ VOwn w' d d.nx vb ra rc rb)

set_option maxHeartbeats 1600000 in
set_option maxRecDepth 100000 in
theorem versIn14 {w : World} {d : Vd} {m : Vm} {c1 : Nat} (hv : VersAt w d m) (hn : d.n ≤ 1048576) (hl : ∀ i, i < d.n → d.rl i ≤ 1048576) (hna : m.a ≠ none) :
    Calls Try.prog 14 #[.slice m.a d.n c1] w fun e' w' => VersMade w w' e' d := by
  have h2 := fun w a n c => Lib.run_eql_slice_nil (P := Try.prog) w 22 49 a n c 0 0 Try.underlying22
  have hmk := run_make46 d.n hn
  obtain ⟨a0, Ha0⟩ : ∃ a0, m.a = some a0 := by
    cases h : m.a with
    | none => exact absurd h hna
    | some a => exact ⟨a, rfl⟩
  rw [Ha0]
  have Hva : Aside (m.a = some a0) := Ha0
  have HV : Aside (VersAt w d m) := hv
  have HL : Aside (∀ i, i < d.n → d.rl i ≤ 1048576) := hl
  clear hv hl Ha0 hna
  go_enter Try.func14, Try.ntmps14
  go_wp2
  clear hmk h2
  go_loopg [4] d.n (fun g s4 wr => ∃ (c : Nat) (ra : Nat → Option Addr) (rc rb : Nat → Nat), c ≤ d.n ∧ g = d.n - c ∧ s4 = .int .i64 (c : Int) ∧ VFill w wr d ra rc rb c)
  case atStart => exact ⟨0, fun _ => none, fun _ => 0, fun _ => 0, Nat.zero_le _, rfl, rfl, ⟨(World.Since.refl _ _).alloc (Nat.le_refl _) _, quad_congr (quad_made w d.n 46 _ _ _ _) (fun i _ => by simp), fun i hi => absurd hi (Nat.not_lt_zero _)⟩⟩
  case round =>
    obtain ⟨c, ra, rc, rb, hc, rfl, rfl, hF⟩ := hrel
    by_cases hcn : c < d.n
    · have hcz : (c : Int) < (d.n : Int) := by omega
      obtain rfl : a0 = ⟨m.b, m.o, none⟩ := by have := Hva.out.symm.trans (HV.out.addr (by omega)); simpa using this
      have v1 := HV.out.later hF.since (Nat.le_refl _)
      have q0 := v1.cw c hcn
      have q1 := v1.ci c hcn
      have q2 := v1.cr c hcn
      have q3 := v1.cn c hcn
      have HI : Aside (IntsAt .i32 wr (m.ra c) (d.rl c) (d.r c) (m.rb c) (m.ro c)) := ⟨fun h => v1.ra c hcn 0 h, fun k hk => v1.rr c hcn k hk⟩
      have HS : Aside (wr.cell? ⟨m.b, m.o + c * 4, none⟩ = some (.int .i32 (d.wr c)) ∧ wr.cell? ⟨m.b, m.o + c * 4 + 1, none⟩ = some (.int .i32 (d.it c)) ∧ wr.cell? ⟨m.b, m.o + c * 4 + 2, none⟩ = some (.slice (m.ra c) (d.rl c) (m.rc c)) ∧ wr.cell? ⟨m.b, m.o + c * 4 + 3, none⟩ = some (.int .i32 (d.nx c))) := ⟨q0, q1, q2, q3⟩
      have hbm := World.block_lt_of_cell? _ _ (HV.out.cw c hcn)
      simp only at hbm
      clear q0 q1 q2 q3
      have hne1 : ¬ w.heap.size = m.b := by omega
      clear v1
      go_wp2
      have hSw := HS.out
      go_region_held3 (fun w' => w'.cell? ⟨m.b, m.o + c * 4, none⟩ = some (.int .i32 (d.wr c)) ∧ w'.cell? ⟨m.b, m.o + c * 4 + 1, none⟩ = some (.int .i32 (d.it c)) ∧ w'.cell? ⟨m.b, m.o + c * 4 + 2, none⟩ = some (.slice (m.ra c) (d.rl c) (m.rc c)) ∧ w'.cell? ⟨m.b, m.o + c * 4 + 3, none⟩ = some (.int .i32 (d.nx c))) (first | assumption | go_keep)
        (first | (go_at_call 30; refine (clone30 (w := wr.drew) ⟨HI.out.addr, HI.out.cell⟩ (HL.out c hcn)).mono ?_; rintro e w5 ⟨a', b', c', rfl, s5, hx, hb⟩; have s5' : wr.Since wr.heap.size w5 := ⟨s5.os, s5.tape, s5.output, s5.size, s5.block⟩; have hS5 := And.intro (cell_later s5' (Nat.le_refl _) HS.out.1) (And.intro (cell_later s5' (Nat.le_refl _) HS.out.2.1) (And.intro (cell_later s5' (Nat.le_refl _) HS.out.2.2.1) (cell_later s5' (Nat.le_refl _) HS.out.2.2.2))); have hr5 := rowLater hF.row s5' (Nat.le_refl _); obtain ⟨d0, d1, d2, d3⟩ := quad_cells hr5 hcn; have f0 := hr5.frozen (c * 4); have f1 := hr5.frozen (c * 4 + 1); have f2 := hr5.frozen (c * 4 + 2); have f3 := hr5.frozen (c * 4 + 3); have l5 := hr5.lt; simp only [Nat.lt_irrefl, if_false] at d0 d1 d2 d3; have HST := fun o => vfill_step hF s5' (c' := c') hx hb o; clear hr5) | (go_at_call 48; refine (make48 _ _ _ _ _ _ _).mono ?_; rintro e w' ⟨rfl, rfl⟩))
      go_wp2
      go_roundg (d.n - (c + 1))
      case measure => go_light; omega
      case rel => go_light; exact ⟨c + 1, _, _, _, by omega, rfl, by simp, HST _⟩
    · have hcz : ¬ (c : Int) < (d.n : Int) := by omega
      obtain rfl : c = d.n := by omega
      go_wp2
      go_ret
      refine ⟨some ⟨w.heap.size, 0, none⟩, d.n, w.heap.size, ra, rc, rb, rfl, hF.since, fun _ => ⟨rfl, Nat.le_refl _, ⟨quad_congr hF.row (fun i hi => by simp [hi]), hF.rd⟩⟩⟩
end Go.Proofs.Qxb6601390a
