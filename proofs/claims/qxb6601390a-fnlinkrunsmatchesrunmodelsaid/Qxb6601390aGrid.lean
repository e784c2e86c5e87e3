/-
  WHAT THE WALKS ARE TOLD OF A SLICE OF SLICES OF ARCS ('[][]ArcB1', '[][]arc': three int32 cells an arc).
-/
import Derived.Test.Qxb6601390aRows
import Derived.WalkKit
import Derived.WalkSpells
import Derived.WalkLawsBesides
import Derived.Deep.LoopGhost
import Derived.Deep.OwnRows
import Derived.Deep.Light
import Derived.Deep.QuietTactic
import Derived.BigQuiet
import Derived.Deep.RegionWith
namespace Go.Proofs.Qxb6601390a
open Go.RowKit

/-- THE CALL ANSWERS A BOOL of which 'p' holds. (Behind a name: the walk's simp does not open it.) -/
def Answers (p : Bool → Prop) (e : Ending) : Prop := ∃ b, e = .returned (.bool b) ∧ p b
theorem Answers.mk {p : Bool → Prop} {e : Ending} (b : Bool) (h : e = .returned (.bool b)) (hp : p b) : Answers p e := ⟨b, h, hp⟩

/-- L 0 + .. + L (n - 1). -/
def sumTo (L : Nat → Nat) : Nat → Nat
  | 0 => 0
  | n + 1 => sumTo L n + L n
theorem sumTo_le (L : Nat → Nat) {r n : Nat} (h : r ≤ n) : sumTo L r ≤ sumTo L n := by
  induction n with
  | zero => have : r = 0 := by omega
            subst this; exact Nat.le_refl _
  | succ n ih =>
    by_cases e : r = n + 1
    · subst e; exact Nat.le_refl _
    · have := ih (by omega); simp only [sumTo]; omega
theorem sumTo_one (L : Nat → Nat) {r n : Nat} (h : r < n) : sumTo L r + L r ≤ sumTo L n := sumTo_le L (r := r + 1) h

/-- 'ga' leads to G rows; row r is the slice value (A r) (L r) (C r); its arc c lies in three cells. -/
structure GridAt (w : World) (ga : Option Addr) (G : Nat) (A : Nat → Option Addr) (L C RB RO : Nat → Nat) (T H I : Nat → Nat → Int) (gb go : Nat) : Prop where
  ga : 0 < G → ga = some ⟨gb, go, none⟩
  row : ∀ r, r < G → w.cell? ⟨gb, go + r, none⟩ = some (.slice (A r) (L r) (C r))
  nil : ∀ r, r < G → A r = none → L r = 0
  addr : ∀ r, r < G → ∀ c, c < L r → A r = some ⟨RB r, RO r, none⟩
  tail : ∀ r, r < G → ∀ c, c < L r → w.cell? ⟨RB r, RO r + c * 3, none⟩ = some (.int .i32 (T r c))
  head : ∀ r, r < G → ∀ c, c < L r → w.cell? ⟨RB r, RO r + c * 3 + 1, none⟩ = some (.int .i32 (H r c))
  item : ∀ r, r < G → ∀ c, c < L r → w.cell? ⟨RB r, RO r + c * 3 + 2, none⟩ = some (.int .i32 (I r c))
  bdT : ∀ r c, r < G → c < L r → -2147483648 ≤ T r c ∧ T r c ≤ 2147483647
  bdL : ∀ r, r < G → L r ≤ 9223372036854775807
  bdG : G ≤ 9223372036854775807

theorem GridAt.later {w w' : World} {ga : Option Addr} {G : Nat} {A : Nat → Option Addr} {L C RB RO : Nat → Nat} {T H I : Nat → Nat → Int} {gb go : Nat}
    (g : GridAt w ga G A L C RB RO T H I gb go) {B : Nat} (h : w.Since B w') (hB : w.heap.size ≤ B) : GridAt w' ga G A L C RB RO T H I gb go := by
  have k : ∀ a v, w.cell? a = some v → w'.cell? a = some v := fun a v e => by
    rw [h.cell (Nat.lt_of_lt_of_le (World.block_lt_of_cell? _ _ e) hB)]; exact e
  exact ⟨g.ga, fun r hr => k _ _ (g.row r hr), g.nil, g.addr, fun r hr c hc => k _ _ (g.tail r hr c hc), fun r hr c hc => k _ _ (g.head r hr c hc),
    fun r hr c hc => k _ _ (g.item r hr c hc), g.bdT, g.bdL, g.bdG⟩

end Go.Proofs.Qxb6601390a
