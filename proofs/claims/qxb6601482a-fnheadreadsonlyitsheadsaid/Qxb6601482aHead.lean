/-
  THE CODEC's HEAD READERS: HeadSize (9), headLenOf (10).
-/
import Derived.Test.Qxb6601482aRows
import Derived.WalkKit
import Derived.WalkSpells
import Derived.WalkLawsBesides
import Derived.Deep.LoopGhost
import Derived.Deep.OwnRows
import Derived.Deep.Light
import Derived.Deep.QuietTactic
import Derived.BigQuiet
import Derived.Deep.RegionHeld3
import Derived.Test.Qxb6601482aCopy
namespace Go.Proofs.Qxb6601482a
open Go.RowKit

/-- The head's size by its first byte. -/
def hsz (x : Int) : Nat := if x % 32 < 24 then 1 else if x % 32 = 24 then 2 else if x % 32 = 25 then 3 else if x % 32 = 26 then 5 else if x % 32 = 27 then 9 else 1

theorem ret_int {k : IntKind} {a b : Int} (h : a = b) : Ending.returned (.int k a) = .returned (.int k b) := by rw [h]
theorem hsz_lo {x : Int} (h : x % 32 < 24) : (1 : Int) = (hsz x : Int) := by simp [hsz, h]
theorem hsz_hi {x : Int} (h : 27 < x % 32) : (1 : Int) = (hsz x : Int) := by
  simp only [hsz]
  rw [if_neg (by omega), if_neg (by omega), if_neg (by omega), if_neg (by omega), if_neg (by omega)]; rfl
theorem hsz_24 {x : Int} (h : x % 32 = 24) : (2 : Int) = (hsz x : Int) := by simp [hsz, h]
theorem hsz_25 {x : Int} (h : x % 32 = 25) : (3 : Int) = (hsz x : Int) := by simp [hsz, h]
theorem hsz_26 {x : Int} (h : x % 32 = 26) : (5 : Int) = (hsz x : Int) := by simp [hsz, h]
theorem hsz_27 {x : Int} (h : x % 32 = 27) : (9 : Int) = (hsz x : Int) := by simp [hsz, h]
theorem hsz_none {x : Int} (h0 : (x % 32 == 24) = false) (h1 : (x % 32 == 25) = false) (h2 : (x % 32 == 26) = false) (h3 : (x % 32 == 27) = false) : (1 : Int) = (hsz x : Int) := by
  simp only [beq_eq_false_iff_ne, ne_eq] at h0 h1 h2 h3
  simp only [hsz]
  rw [if_neg h0, if_neg h1, if_neg h2, if_neg h3]
  split <;> rfl
theorem hsz_mid {x : Int} (h0 : 24 ≤ x % 32) (h1 : x % 32 ≤ 27) : wrap64 (1 + wrap64 (2 ^ (x % 32 - 24).toNat)) = (hsz x : Int) := by
  have : x % 32 = 24 ∨ x % 32 = 25 ∨ x % 32 = 26 ∨ x % 32 = 27 := by omega
  rcases this with e | e | e | e <;> simp [hsz, e, wrap64]
theorem hsz_bd (x : Int) : 1 ≤ hsz x ∧ hsz x ≤ 9 := by
  simp only [hsz]
  split
  · omega
  split
  · omega
  split
  · omega
  split
  · omega
  split <;> omega

set_option maxHeartbeats 400000 in
theorem len10 (x : Int) (h0 : 0 ≤ x) (_h1 : x ≤ 255) (w : World) : Calls Try.prog 10 #[.int .u8 x] w fun e w' => e = .returned (.int .i64 (hsz x : Int)) ∧ w' = w := by
  go_enter Try.func10, Try.ntmps10
  go_wp2
  all_goals go_ret
  · exact ⟨ret_int (hsz_24 (beq_iff_eq.1 (by assumption))), rfl⟩
  · exact ⟨ret_int (hsz_25 (beq_iff_eq.1 (by assumption))), rfl⟩
  · exact ⟨ret_int (hsz_26 (beq_iff_eq.1 (by assumption))), rfl⟩
  · exact ⟨ret_int (hsz_27 (beq_iff_eq.1 (by assumption))), rfl⟩
  · exact ⟨ret_int (hsz_none (by assumption) (by assumption) (by assumption) (by assumption)), rfl⟩

set_option maxHeartbeats 400000 in
theorem size9 (x : Int) (h0 : 0 ≤ x) (h1 : x ≤ 255) (b o n c : Nat) (hn : 0 < n) (w : World) (hx : w.cell? ⟨b, o, none⟩ = some (.int .u8 x)) : Calls Try.prog 9 #[.slice (some ⟨b, o, none⟩) n c] w fun e w' => e = .returned (.int .i64 (hsz x : Int)) ∧ w' = w := by
  have hnz : (0 : Int) < (n : Int) := by omega
  go_enter Try.func9, Try.ntmps9
  go_wp2
  all_goals go_ret
  · exact ⟨ret_int (hsz_lo (by assumption)), rfl⟩
  · exact ⟨ret_int (hsz_mid (by assumption) (by assumption)), rfl⟩
  · exact ⟨ret_int (hsz_hi (by assumption)), rfl⟩

/-- A slice value of n bytes X in memory. -/
structure BytesAt (w : World) (a : Option Addr) (n : Nat) (X : Nat → Int) (b o : Nat) : Prop where
  addr : 0 < n → a = some ⟨b, o, none⟩
  cell : ∀ i, i < n → w.cell? ⟨b, o + i, none⟩ = some (.int .u8 (X i))
  bd : ∀ i, i < n → 0 ≤ X i ∧ X i ≤ 255

theorem BytesAt.later {w w' : World} {a : Option Addr} {n : Nat} {X : Nat → Int} {b o B : Nat} (h : BytesAt w a n X b o) (s : w.Since B w') (hB : w.heap.size ≤ B) : BytesAt w' a n X b o :=
  ⟨h.addr, fun i hi => by rw [s.cell (Nat.lt_of_lt_of_le (World.block_lt_of_cell? _ _ (h.cell i hi)) hB)]; exact h.cell i hi, h.bd⟩
theorem BytesAt.ofRow {w : World} {b : Nat} {t : TypeId} {n : Nat} {X : Nat → Int} (h : w.rowIs b t n (fun i => .int .u8 (X i))) (hb : ∀ i, i < n → 0 ≤ X i ∧ X i ≤ 255) : BytesAt w (some ⟨b, 0, none⟩) n X b 0 :=
  ⟨fun _ => rfl, fun i hi => by rw [Nat.zero_add]; exact h.cell hi, hb⟩
theorem since_drewN {B : Nat} {w w' : World} (h : w.Since B w') (n : Nat) : w.Since B (w'.drewN n) := ⟨h.os, h.tape, h.output, h.size, h.block⟩
theorem since_chain {w a b : World} (h : w.Since w.heap.size a) (k : a.Since a.heap.size b) : w.Since w.heap.size b :=
  h.trans ⟨k.os, k.tape, k.output, k.size, fun i hi => k.block i (Nat.lt_of_lt_of_le hi h.size)⟩

theorem Try.info5 : (Try.prog.info? 5).map (fun i => (i.zero, i.size, i.bytes)) = some (some (.int .u8 0), 1, 1) := by kernel_rfl
theorem Try.size5 : (Try.prog.info? 5).map (·.size) = some 1 := by kernel_rfl

/-- WHAT cloneBytes LEAVES: the same bytes in new memory (nil for nil). -/
def Cloned (w w' : World) (e : Ending) (a : Option Addr) (n : Nat) (X : Nat → Int) : Prop :=
  ∃ a' b' c', e = .returned (.slice a' n c') ∧ w.Since w.heap.size w' ∧ BytesAt w' a' n X b' 0 ∧ w.heap.size ≤ b' ∧ (a = none → a' = none) ∧ (a ≠ none → a' ≠ none) ∧ n ≤ c'

set_option maxHeartbeats 400000 in
theorem clone8_nil (w : World) (c : Nat) (X : Nat → Int) : Calls Try.prog 8 #[.slice none 0 c] w fun e w' => Cloned w w' e none 0 X := by
  have h2 := fun w a n c => Lib.run_eql_slice_nil (P := Try.prog) w 22 5 a n c 0 0 Try.underlying22
  go_enter Try.func8, Try.ntmps8
  go_wp2
  go_ret
  exact ⟨none, w.heap.size, 0, rfl, World.Since.refl _ _, ⟨fun h => absurd h (Nat.lt_irrefl _), fun i h => absurd h (Nat.not_lt_zero _), fun i h => absurd h (Nat.not_lt_zero _)⟩, Nat.le_refl _, fun _ => rfl, fun h => absurd rfl h, Nat.le_refl _⟩

set_option maxHeartbeats 400000 in
theorem clone8_some {w : World} {b o n c : Nat} {X : Nat → Int} (h : BytesAt w (some ⟨b, o, none⟩) n X b o) (hn : n ≤ 1048576) (hn0 : 0 < n) : Calls Try.prog 8 #[.slice (some ⟨b, o, none⟩) n c] w fun e w' => Cloned w w' e (some ⟨b, o, none⟩) n X := by
  have h2 := fun w a n c => Lib.run_eql_slice_nil (P := Try.prog) w 22 5 a n c 0 0 Try.underlying22
  have hmk := run_make_row' (P := Try.prog) 22 5 (.int .u8 0) 1 Try.underlying22 Try.info5 rfl .i64 .i64 n (by omega) (by omega)
  have s1 := (World.Since.refl w.heap.size w).alloc (Nat.le_refl _) (.cells (madeCells #[.int .u8 0] n) 5)
  have r1 := World.rowIs_made w (.int .u8 0) n 5
  have hx := (h.later s1 (Nat.le_refl _)).cell
  go_enter Try.func8, Try.ntmps8
  go_wp2_with (refine wpList_copy_rowIs rfl (.tmp 9) (.tmp 10) 22 22 rfl 5 Try.underlying22 Try.size5 w.heap.size 0 n n b o n c rfl rfl 5 n n _ (fun j => .int .u8 (X j)) r1 (by simp) hx (by omega) (fun _ _ => rfl) ?_; intro w2 ho hr)
  go_ret
  have hr2 : w2.rowIs w.heap.size 5 n (fun j => .int .u8 (X j)) := hr.congr (fun j hj => by simp only [copied]; rw [if_pos (by omega), Nat.sub_zero])
  exact ⟨some ⟨w.heap.size, 0, none⟩, w.heap.size, n, rfl, ho.since s1 (Nat.le_refl _), BytesAt.ofRow hr2 h.bd, Nat.le_refl _, fun h => (by cases h), fun _ => (fun h => by cases h), Nat.le_refl _⟩

set_option maxHeartbeats 400000 in
theorem clone8_empty (w : World) (a : Addr) (c : Nat) (X : Nat → Int) : Calls Try.prog 8 #[.slice (some a) 0 c] w fun e w' => Cloned w w' e (some a) 0 X := by
  have h2 := fun w a n c => Lib.run_eql_slice_nil (P := Try.prog) w 22 5 a n c 0 0 Try.underlying22
  have hmk : ∀ w, (Instr.makeSlice 22 (.int .i64 0) (.int .i64 0)).run Try.prog w = .ok (.slice (some ⟨w.heap.size, 0, none⟩) 0 0) (w.alloc (.cells (madeCells #[.int .u8 0] 0) 5)) := fun w => run_make_row' (P := Try.prog) 22 5 (.int .u8 0) 1 Try.underlying22 Try.info5 rfl .i64 .i64 0 (by omega) (by omega) w
  have s1 := (World.Since.refl w.heap.size w).alloc (Nat.le_refl _) (.cells (madeCells #[.int .u8 0] 0) 5)
  go_enter Try.func8, Try.ntmps8
  go_wp2_with (refine wpList_copy_nothing rfl (.tmp 9) (.tmp 10) 22 22 rfl 5 Try.underlying22 Try.size5 _ _ _ _ _ _ rfl rfl (by simp) ?_)
  go_ret
  exact ⟨some ⟨w.heap.size, 0, none⟩, w.heap.size, 0, rfl, s1, ⟨fun h => absurd h (Nat.lt_irrefl _), fun i h => absurd h (Nat.not_lt_zero _), fun i h => absurd h (Nat.not_lt_zero _)⟩, Nat.le_refl _, fun h => (by cases h), fun _ => (fun h => by cases h), Nat.le_refl _⟩

theorem clone8 {w : World} {a : Option Addr} {b o n c : Nat} {X : Nat → Int} (h : BytesAt w a n X b o) (hn : n ≤ 1048576) : Calls Try.prog 8 #[.slice a n c] w fun e w' => Cloned w w' e a n X := by
  by_cases h0 : 0 < n
  · obtain rfl := h.addr h0
    exact clone8_some h hn h0
  · obtain rfl : n = 0 := by omega
    cases a with
    | none => exact clone8_nil w c X
    | some a => exact clone8_empty w a c X
end Go.Proofs.Qxb6601482a
