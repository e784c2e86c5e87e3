/-
  FnHeadSizeTable (3): the law's walk.
-/
import Derived.Test.Qxb6601482aHead
import Derived.ProofKit
import Derived.OpenShut
namespace Go.Proofs.Qxb6601482a
open Go.RowKit

/-- THE CALL ANSWERS A BOOL of which 'p' holds. -/
def Answers (p : Bool → Prop) (e : Ending) : Prop := ∃ b, e = .returned (.bool b) ∧ p b
theorem Answers.mk {p : Bool → Prop} {e : Ending} (b : Bool) (h : e = .returned (.bool b)) (hp : p b) : Answers p e := ⟨b, h, hp⟩

/-- What the frame knows of a slice of bytes that came in, as the walks ask it. -/
theorem bytes_of_row {w : World} {a : Option Addr} {len cap : Nat} {zs : List Int} (h : (a = none ∧ len = 0 ∧ cap = 0 ∧ zs = []) ∨
    ∃ x, a = some x ∧ len ≤ cap ∧ cap ≤ maxLen ∧ zs.length = cap ∧ (∀ i, i < zs.length → w.cell? (x.add i) = some (.int .u8 (zs.getD i 0))) ∧ ∀ n ∈ zs, (Lit.int .u8 n).wf = true) :
    ∃ b o, BytesAt w a len (fun i => zs.getD i 0) b o ∧ len ≤ 9223372036854775807 := by
  rcases h with ⟨rfl, rfl, -, -⟩ | ⟨⟨b, o, spot⟩, rfl, hl, hm, hz, hc, hw⟩
  · exact ⟨0, 0, ⟨fun h => absurd h (Nat.lt_irrefl _), fun i h => absurd h (Nat.not_lt_zero _), fun i h => absurd h (Nat.not_lt_zero _)⟩, by omega⟩
  · have hmx : maxLen = 9223372036854775807 := rfl
    have hs : 0 < len → spot = none := fun h => by have := World.cell?_spot (hc 0 (by omega)); simpa [Addr.add] using this
    refine ⟨b, o, ⟨fun h => by rw [hs h], fun i hi => ?_, fun i hi => ?_⟩, by omega⟩
    · have e := hc i (by omega)
      have e2 := hs (by omega)
      subst e2
      rw [Go.WideShapes.add_plain] at e
      exact e
    · have hm : zs.getD i 0 ∈ zs := by rw [List.getD_eq_getElem?_getD, List.getElem?_eq_getElem (by omega)]; exact List.getElem_mem _
      have := bounds_u8 (hw _ hm)
      exact ⟨by omega, by omega⟩

set_option maxHeartbeats 400000 in
theorem bytes7 (a : Option Addr) (n c : Nat) (hn : n ≤ 9223372036854775807) (w : World) : Calls Try.prog 7 #[.slice a n c] w fun e w' => Answers (fun _ => True) e ∧ w' = w := by
  by_cases h : (1048576 : Int) < (n : Int)
  all_goals
    go_enter Try.func7, Try.ntmps7
    go_wp2
    go_ret
    exact ⟨Answers.mk _ rfl trivial, rfl⟩

set_option maxHeartbeats 800000 in
theorem law3 {w : World} {a : Option Addr} {b o n c : Nat} {X : Nat → Int} (h : BytesAt w a n X b o) (hn : n ≤ 9223372036854775807) :
    Calls Try.prog 3 #[.slice a n c] w fun e w' => e = .returned (.bool true) ∧ w.Since w.heap.size w' := by
  go_enter Try.func3, Try.ntmps3
  go_wp2_with fail
  refine (bytes7 _ _ _ hn _).mono ?_
  rintro e w1 ⟨⟨b1, rfl, -⟩, rfl⟩
  cases b1
  · go_wp2
    go_ret
    exact ⟨rfl, World.Since.refl _ _⟩
  by_cases h1 : (1048576 : Int) < (n : Int)
  · go_wp2
    go_ret
    exact ⟨rfl, World.Since.refl _ _⟩
  by_cases h0 : n = 0
  · have h0z : ((n : Int) == 0) = true := by simp; omega
    go_wp2
    go_ret
    exact ⟨rfl, World.Since.refl _ _⟩
  have h0z : ((n : Int) == 0) = false := by simp; omega
  go_wp2_with fail
  refine (clone8 h (by omega)).mono ?_
  rintro e w2 ⟨a', b', c', rfl, s2, h2, -, -, -, -⟩
  obtain rfl := h2.addr (by omega)
  obtain ⟨x0, x1⟩ := h2.bd 0 (by omega)
  have hx := h2.cell 0 (by omega)
  rw [Nat.zero_add] at hx
  have hnz : (0 : Int) < (n : Int) := by omega
  obtain ⟨x, Hx⟩ : ∃ x, X 0 = x := ⟨_, rfl⟩
  rw [Hx] at x0 x1 hx
  clear Hx h2 h
  have e1 : (((hsz x : Nat) : Int) == ((hsz x : Nat) : Int)) = true := by simp
  go_wp2_with fail
  go_quiet (first | (go_at_call 9; exact Calls.quiet_of_same (size9 x x0 x1 b' 0 n c' (by omega) _ (by simpa using hx))) | (go_at_call 10; exact Calls.quiet_of_same (len10 x x0 x1 _)))
  go_wp2
  go_ret
  exact ⟨by simp, since_drewN s2 _⟩
end Go.Proofs.Qxb6601482a
