/-
  zzCloneBytes (10), zzCloneLines (16), zzBytesEqual (13).
-/
import Derived.Test.Qxb6601719aGuards
namespace Go.Proofs.Qxb6601719a
open Go.RowKit
set_option linter.unusedVariables false

theorem Try.info5 : (Try.prog.info? 5).map (fun i => (i.zero, i.size, i.bytes)) = some (some (.int .u8 0), 1, 1) := by kernel_rfl
theorem Try.info22 : (Try.prog.info? 22).map (fun i => (i.zero, i.size, i.bytes)) = some (some (.slice none 0 0), 1, 24) := by kernel_rfl
theorem Try.info3 : (Try.prog.info? 3).map (fun i => (i.zero, i.size, i.bytes)) = some (some (.int .i64 0), 1, 8) := by kernel_rfl

/-- WHAT cloneBytes LEAVES: the same bytes in new memory (nil for nil). -/
def Cloned (w w' : World) (e : Ending) (n : Nat) (X : Nat → UInt8) : Prop :=
  ∃ a' b' c', e = .returned (.slice a' n c') ∧ w.Since w.heap.size w' ∧ w.heap.size ≤ b' ∧ (a' = none → n = 0) ∧ (0 < n → a' = some ⟨b', 0, none⟩) ∧ (∀ i, i < n → w'.cell? ⟨b', 0 + i, none⟩ = some (.int .u8 ((X i).toNat : Int)))

set_option maxHeartbeats 400000 in
theorem clone10_nil (w : World) (c : Nat) (X : Nat → UInt8) : Calls Try.prog 10 #[.slice none 0 c] w fun e w' => Cloned w w' e 0 X := by
  have h2 := fun w a n c => Lib.run_eql_slice_nil (P := Try.prog) w 22 5 a n c 0 0 Try.underlying22
  go_enter Try.func10, Try.ntmps10
  go_wp2
  go_ret
  exact ⟨none, w.heap.size, 0, rfl, World.Since.refl _ _, Nat.le_refl _, fun _ => rfl, fun h => absurd h (Nat.lt_irrefl _), fun i h => absurd h (Nat.not_lt_zero _)⟩

def bCell (X : Nat → UInt8) (k j : Nat) : Value := if j < k then .int .u8 ((X j).toNat : Int) else .int .u8 0
theorem bCell_step (X : Nat → UInt8) (k j : Nat) : (if j = k then .int .u8 ((X k).toNat : Int) else bCell X k j) = bCell X (k + 1) j := by
  simp only [bCell]
  by_cases e : j = k
  · subst e; simp
  · rw [if_neg e]
    by_cases h : j < k
    · rw [if_pos h, if_pos (by omega)]
    · rw [if_neg h, if_neg (by omega)]
theorem bCell_at (X : Nat → UInt8) (k : Nat) : bCell X k k = .int .u8 0 := by simp [bCell]

set_option maxHeartbeats 400000 in
theorem clone10_some {w : World} {a : Addr} {b o n c : Nat} {X : Nat → UInt8} (ha : 0 < n → a = ⟨b, o, none⟩) (hx : ∀ i, i < n → w.cell? ⟨b, o + i, none⟩ = some (.int .u8 ((X i).toNat : Int))) (hn : n ≤ 1048576) : Calls Try.prog 10 #[.slice (some a) n c] w fun e w' => Cloned w w' e n X := by
  have h2 := fun w a n c => Lib.run_eql_slice_nil (P := Try.prog) w 22 5 a n c 0 0 Try.underlying22
  have hmk := run_make_row' (P := Try.prog) 22 5 (.int .u8 0) 1 Try.underlying22 Try.info5 rfl .i64 .i64 n (by omega) (by omega)
  go_enter Try.func10, Try.ntmps10
  go_wp2
  clear hmk h2
  go_loopg [4] n (fun g i wr => ∃ k : Nat, k ≤ n ∧ g = n - k ∧ i = .int .i64 k ∧ w.Since w.heap.size wr ∧ wr.rowIs w.heap.size 5 n (bCell X k))
  case atStart => exact ⟨0, Nat.zero_le _, rfl, rfl, (World.Since.refl _ _).alloc (Nat.le_refl _) _, (World.rowIs_made w _ n 5).congr (fun j _ => by simp [bCell])⟩
  case round =>
    obtain ⟨k, hk, rfl, rfl, sn, row⟩ := hrel
    by_cases hkn : k < n
    · have hkz : (k : Int) < (n : Int) := by omega
      obtain rfl := ha (by omega)
      have c0 : wr.cell? ⟨b, o + k, none⟩ = some (.int .u8 ((X k).toNat : Int)) := by
        have h1 := hx k hkn
        rw [sn.cell (World.block_lt_of_cell? _ _ h1)]; exact h1
      have c1 := row.cell hkn
      rw [bCell_at] at c1
      have f1 := row.frozen k
      have H1 := (sn.setCell (a := ⟨w.heap.size, k, none⟩) (Nat.le_refl _) (.int .u8 ((X k).toNat : Int)))
      have H2 := (row.set k (.int .u8 ((X k).toNat : Int))).congr (fun j _ => bCell_step X k j)
      clear sn row
      go_wp2
      go_roundg (n - (k + 1))
      case measure => go_light; omega
      case rel => go_light; exact ⟨k + 1, by omega, rfl, by simp, H1, H2⟩
    · have hkz : ¬ (k : Int) < (n : Int) := by omega
      obtain rfl : k = n := by omega
      go_wp2
      go_ret
      exact ⟨some ⟨w.heap.size, 0, none⟩, w.heap.size, _, rfl, sn, Nat.le_refl _, (fun h => by cases h), fun _ => rfl, fun i hi => by rw [Nat.zero_add, row.cell hi, bCell, if_pos hi]⟩

theorem LinesAt.clone10 {w : World} {ga : Option Addr} {G : Nat} {A : Nat → Option Addr} {L C RB RO : Nat → Nat} {X : Nat → Nat → UInt8} {gb go : Nat}
    (g : LinesAt w ga G A L C RB RO X gb go) {r : Nat} (hr : r < G) (hl : L r ≤ 1048576) : Calls Try.prog 10 #[.slice (A r) (L r) (C r)] w fun e w' => Cloned w w' e (L r) (X r) := by
  cases hA : A r with
  | none =>
    rw [g.nil r hr hA]
    exact clone10_nil w _ _
  | some a =>
    exact clone10_some (b := RB r) (o := RO r) (fun h0 => by have := g.addr r hr 0 h0; rw [hA] at this; exact Option.some.inj this) (g.byte r hr) hl

/-- Copied lines: k of them done. -/
structure LinesOut (w wr : World) (G : Nat) (L : Nat → Nat) (X : Nat → Nat → UInt8) (A' : Nat → Option Addr) (C' B' : Nat → Nat) (k : Nat) : Prop where
  since : w.Since w.heap.size wr
  row : wr.rowIs w.heap.size 22 G (fun j => if j < k then .slice (A' j) (L j) (C' j) else .slice none 0 0)
  nil : ∀ r, r < k → A' r = none → L r = 0
  addr : ∀ r, r < k → 0 < L r → A' r = some ⟨B' r, 0, none⟩
  byte : ∀ r, r < k → ∀ c, c < L r → w.heap.size < B' r ∧ wr.cell? ⟨B' r, 0 + c, none⟩ = some (.int .u8 ((X r c).toNat : Int))

theorem out_start (w : World) (G : Nat) (L : Nat → Nat) (X : Nat → Nat → UInt8) (A' : Nat → Option Addr) (C' B' : Nat → Nat) : LinesOut w (w.alloc (.cells (madeCells #[.slice none 0 0] G) 22)) G L X A' C' B' 0 :=
  ⟨(World.Since.refl _ _).alloc (Nat.le_refl _) _, (World.rowIs_made w _ G 22).congr (fun j _ => by simp), fun j hj => absurd hj (Nat.not_lt_zero _), fun j hj => absurd hj (Nat.not_lt_zero _), fun j hj => absurd hj (Nat.not_lt_zero _)⟩

theorem out_step {w wr wi : World} {G : Nat} {L : Nat → Nat} {X : Nat → Nat → UInt8} {A' : Nat → Option Addr} {C' B' : Nat → Nat} {k : Nat} (h : LinesOut w wr G L X A' C' B' k)
    {a : Option Addr} {b c : Nat} (sn : wr.Since wr.heap.size wi) (hb : wr.heap.size ≤ b) (h1 : a = none → L k = 0) (h2 : 0 < L k → a = some ⟨b, 0, none⟩) (h3 : ∀ i, i < L k → wi.cell? ⟨b, 0 + i, none⟩ = some (.int .u8 ((X k i).toNat : Int))) :
    LinesOut w (wi.setCell ⟨w.heap.size, k, none⟩ (.slice a (L k) c)) G L X (fun j => if j = k then a else A' j) (fun j => if j = k then c else C' j) (fun j => if j = k then b else B' j) (k + 1) := by
  have hN : w.heap.size < wr.heap.size := h.row.lt
  refine ⟨(since_chain h.since sn).setCell (Nat.le_refl _) _, ((h.row.of_block (sn.block _ hN)).set k _).congr (fun j _ => ?_), fun r hr hA => ?_, fun r hr h0 => ?_, fun r hr c hc => ?_⟩
  · by_cases e : j = k
    · subst e; simp
    · simp only [if_neg e]
      by_cases hlt : j < k
      · rw [if_pos hlt, if_pos (by omega)]
      · rw [if_neg hlt, if_neg (by omega)]
  · by_cases e : r = k
    · subst e; simp at hA; exact h1 hA
    · simp [e] at hA; exact h.nil r (by omega) hA
  · by_cases e : r = k
    · subst e; simp; exact h2 h0
    · simp only [if_neg e]; exact h.addr r (by omega) h0
  · by_cases e : r = k
    · subst e
      simp only [if_true]
      refine ⟨by omega, ?_⟩
      rw [World.cell?_setCell_far wi ⟨w.heap.size, r, none⟩ ⟨b, 0 + c, none⟩ _ (by show w.heap.size ≠ b; omega)]
      exact h3 c hc
    · simp only [if_neg e]
      obtain ⟨q1, q2⟩ := h.byte r (by omega) c hc
      refine ⟨q1, ?_⟩
      rw [World.cell?_setCell_far wi ⟨w.heap.size, k, none⟩ ⟨B' r, 0 + c, none⟩ _ (by show w.heap.size ≠ B' r; omega), sn.cell (World.block_lt_of_cell? _ _ q2)]
      exact q2

/-- WHAT cloneLines LEAVES. -/
def LinesCloned (w w' : World) (e : Ending) (G : Nat) (L : Nat → Nat) (X : Nat → Nat → UInt8) : Prop :=
  ∃ ga' A' C' RB' RO' gb' go' c', e = .returned (.slice ga' G c') ∧ w.Since w.heap.size w' ∧ LinesAt w' ga' G A' L C' RB' RO' X gb' go'

set_option maxHeartbeats 400000 in
theorem lines16_nil (w : World) (c : Nat) (L : Nat → Nat) (X : Nat → Nat → UInt8) : Calls Try.prog 16 #[.slice none 0 c] w fun e w' => LinesCloned w w' e 0 L X := by
  have h2 := fun w a n c => Lib.run_eql_slice_nil (P := Try.prog) w 25 22 a n c 0 0 Try.underlying25
  go_enter Try.func16, Try.ntmps16
  go_wp2
  go_ret
  exact ⟨none, fun _ => none, fun _ => 0, fun _ => 0, fun _ => 0, 0, 0, 0, rfl, World.Since.refl _ _, ⟨fun h => absurd h (Nat.not_lt_zero _), fun r h => absurd h (Nat.not_lt_zero _), fun r h => absurd h (Nat.not_lt_zero _), fun r h => absurd h (Nat.not_lt_zero _), fun r h => absurd h (Nat.not_lt_zero _), fun r h => absurd h (Nat.not_lt_zero _), by omega⟩⟩

set_option maxHeartbeats 400000 in
theorem lines16_some {w : World} {a : Addr} {G Gc : Nat} {A : Nat → Option Addr} {L C RB RO : Nat → Nat} {X : Nat → Nat → UInt8} {gb go : Nat}
    (g : LinesAt w (some a) G A L C RB RO X gb go) (hG : G ≤ 4096) (hfit : FitL G L) : Calls Try.prog 16 #[.slice (some a) G Gc] w fun e w' => LinesCloned w w' e G L X := by
  have h2 := fun w a n c => Lib.run_eql_slice_nil (P := Try.prog) w 25 22 a n c 0 0 Try.underlying25
  have hmk := run_make_row' (P := Try.prog) 25 22 (.slice none 0 0) 24 Try.underlying25 Try.info22 rfl .i64 .i64 G (by omega) (by omega)
  go_enter Try.func16, Try.ntmps16
  go_wp2
  clear hmk h2
  go_loopg [4] G (fun g i wr => ∃ k : Nat, k ≤ G ∧ g = G - k ∧ i = .int .i64 k ∧ ∃ A' C' B', LinesOut w wr G L X A' C' B' k)
  case atStart => exact ⟨0, Nat.zero_le _, rfl, rfl, fun _ => none, fun _ => 0, fun _ => 0, out_start w G L X _ _ _⟩
  case round =>
    obtain ⟨k, hk, rfl, rfl, A', C', B', hO⟩ := hrel
    by_cases hkn : k < G
    · have hkz : (k : Int) < (G : Int) := by omega
      obtain rfl := Option.some.inj (g.ga (by omega))
      have g1 := g.later hO.since (Nat.le_refl _)
      have c0 := g1.row k hkn
      have hcl := g1.clone10 hkn (hfit k hkn)
      have c1 := hO.row.cell hkn
      have f1 := hO.row.frozen k
      have hN : w.heap.size < wr.heap.size := hO.row.lt
      rw [if_neg (Nat.lt_irrefl _)] at c1
      clear g g1
      go_wp2_with fail
      refine hcl.mono ?_
      rintro e w2 ⟨a', b', c', rfl, sn, hb, q1, q2, q3⟩
      have c1' : w2.cell? ⟨w.heap.size, k, none⟩ = some (.slice none 0 0) := by rw [sn.cell (by exact hN)]; exact c1
      have f1' : w2.frozen? ⟨w.heap.size, k, none⟩ = false := by rw [sn.frozen (by exact hN)]; exact f1
      have H := out_step hO (c := c') sn hb q1 q2 q3
      clear c1 f1 hO q1 q2 q3 hcl c0
      go_wp2
      go_roundg (G - (k + 1))
      case measure => go_light; omega
      case rel => go_light; exact ⟨k + 1, by omega, rfl, by simp, _, _, _, H⟩
    · have hkz : ¬ (k : Int) < (G : Int) := by omega
      obtain rfl : k = G := by omega
      go_wp2
      go_ret
      refine ⟨some ⟨w.heap.size, 0, none⟩, A', C', B', fun _ => 0, w.heap.size, 0, _, rfl, hO.since, ⟨fun _ => rfl, fun r hr => ?_, hO.nil, fun r hr c hc => hO.addr r hr (by omega), fun r hr c hc => (hO.byte r hr c hc).2, g.bdL, g.bdG⟩⟩
      rw [Nat.zero_add, hO.row.cell hr, if_pos hr]

theorem lines16 {w : World} {ga : Option Addr} {G Gc : Nat} {A : Nat → Option Addr} {L C RB RO : Nat → Nat} {X : Nat → Nat → UInt8} {gb go : Nat}
    (g : LinesAt w ga G A L C RB RO X gb go) (hG : G ≤ 4096) (hfit : FitL G L) : Calls Try.prog 16 #[.slice ga G Gc] w fun e w' => LinesCloned w w' e G L X := by
  cases ga with
  | none =>
    have : G = 0 := by
      by_cases h : 0 < G
      · exact absurd (g.ga h) (by simp)
      · omega
    subst this
    exact lines16_nil w Gc L X
  | some a => exact lines16_some g hG hfit

theorem u8_ne {x y : UInt8} (h : ¬ x = y) : ((x.toNat : Int) != (y.toNat : Int)) = true := by
  simp only [bne_iff_ne, ne_eq]
  intro k
  exact h (UInt8.toNat_inj.1 (by omega))

set_option maxHeartbeats 400000 in
theorem equal13 {w : World} {a a' : Option Addr} {n n' c c' b o b' o' : Nat} {X X' : Nat → UInt8} (hn : n ≤ 1048576) (hn' : n' ≤ 1048576)
    (ha : 0 < n → a = some ⟨b, o, none⟩) (hx : ∀ i, i < n → w.cell? ⟨b, o + i, none⟩ = some (.int .u8 ((X i).toNat : Int)))
    (ha' : 0 < n' → a' = some ⟨b', o', none⟩) (hx' : ∀ i, i < n' → w.cell? ⟨b', o' + i, none⟩ = some (.int .u8 ((X' i).toNat : Int))) :
    Calls Try.prog 13 #[.slice a n c, .slice a' n' c'] w fun e w' => Answers (fun r => r = true ↔ (n = n' ∧ ∀ i, i < n → X i = X' i)) e ∧ ∃ d, w' = w.drewN d := by
  by_cases hnn : n = n'
  rotate_left
  · have hz : ((n : Int) != (n' : Int)) = true := by simp; omega
    have H : ((false : Bool) = true ↔ (n = n' ∧ ∀ i, i < n → X i = X' i)) := ⟨(fun h => by cases h), fun h => absurd h.1 hnn⟩
    obtain ⟨P, HP⟩ : ∃ P : Bool → Prop, Aside ((fun r => r = true ↔ (n = n' ∧ ∀ i, i < n → X i = X' i)) = P) := ⟨_, rfl⟩
    rw [HP.out]
    have H' : P false := by rw [← HP.out]; exact H
    clear H
    go_enter Try.func13, Try.ntmps13
    go_wp2
    go_ret
    exact ⟨Answers.mk false rfl H', 0, rfl⟩
  · subst hnn
    obtain ⟨P, HP⟩ : ∃ P : Bool → Prop, Aside ((fun r => r = true ↔ (n = n ∧ ∀ i, i < n → X i = X' i)) = P) := ⟨_, rfl⟩
    rw [HP.out]
    go_enter Try.func13, Try.ntmps13
    go_wp2
    go_loopg [5] n (fun g i wr => ∃ (k d : Nat), k ≤ n ∧ g = n - k ∧ i = .int .i64 k ∧ wr = w.drewN d ∧ ∀ i, i < k → X i = X' i)
    case atStart => exact ⟨0, 0, Nat.zero_le _, rfl, rfl, rfl, fun i h => absurd h (Nat.not_lt_zero _)⟩
    case round =>
      obtain ⟨k, d, hk, rfl, rfl, rfl, hall⟩ := hrel
      have HA : Aside (∀ i, i < k → X i = X' i) := hall
      clear hall
      by_cases hkn : k < n
      · have hkz : (k : Int) < (n : Int) := by omega
        obtain rfl := ha (by omega)
        obtain rfl := ha' (by omega)
        have c0 := hx k hkn
        have c1 := hx' k hkn
        by_cases e : X k = X' k
        · have ez : (((X k).toNat : Int) != ((X' k).toNat : Int)) = false := by rw [e]; simp
          have HA' : Aside (∀ i, i < k + 1 → X i = X' i) := fun i hi => by
            by_cases e2 : i = k
            · subst e2; exact e
            · exact HA.out i (by omega)
          clear hx hx' e
          go_wp2
          go_quiet (fail)
          go_wp2
          go_roundg (n - (k + 1))
          case measure => go_light; omega
          case rel => go_light; exact ⟨k + 1, _, by omega, rfl, by simp, rfl, HA'.out⟩
        · have ez := u8_ne e
          have H' : P false := by rw [← HP.out]; exact ⟨(fun h => by cases h), fun h => absurd (h.2 k hkn) e⟩
          clear hx hx' e
          go_wp2
          go_quiet (fail)
          go_wp2
          go_ret
          exact ⟨Answers.mk false rfl H', _, World.drewN_drewN ..⟩
      · have hkz : ¬ (k : Int) < (n : Int) := by omega
        obtain rfl : k = n := by omega
        have H' : P true := by rw [← HP.out]; exact ⟨fun _ => ⟨(by first | rfl | trivial), HA.out⟩, fun _ => rfl⟩
        clear hx hx'
        go_wp2
        go_ret
        exact ⟨Answers.mk true rfl H', _, rfl⟩

end Go.Proofs.Qxb6601719a
