/-
  THE CODEC's IsMajor (17), Bytes (14); the law's sameBytes (15) and bounds (13, 16).
-/
import Derived.Test.Qxb6601482aSpec
namespace Go.Proofs.Qxb6601482a
open Go.RowKit

set_option maxHeartbeats 400000 in
theorem bytes13 (x y z : Int) (a : Option Addr) (n c : Nat) (hn : n ≤ 9223372036854775807) (w : World) : Calls Try.prog 13 #[.int .u8 x, .int .u8 y, .int .u64 z, .slice a n c] w fun e w' => Answers (fun _ => True) e ∧ w' = w := by
  by_cases h : (1048576 : Int) < (n : Int)
  all_goals
    go_enter Try.func13, Try.ntmps13
    go_wp2
    go_ret
    exact ⟨Answers.mk _ rfl trivial, rfl⟩

set_option maxHeartbeats 400000 in
theorem bytes16 (a a2 : Option Addr) (n c n2 c2 : Nat) (hn : n ≤ 9223372036854775807) (hn2 : n2 ≤ 9223372036854775807) (w : World) : Calls Try.prog 16 #[.slice a n c, .slice a2 n2 c2] w fun e w' => Answers (fun _ => True) e ∧ w' = w := by
  by_cases h : (1048576 : Int) < (n : Int)
  · go_enter Try.func16, Try.ntmps16
    go_wp2
    go_ret
    exact ⟨Answers.mk _ rfl trivial, rfl⟩
  by_cases h2 : (1048576 : Int) < (n2 : Int)
  · go_enter Try.func16, Try.ntmps16
    go_wp2
    go_ret
    exact ⟨Answers.mk _ rfl trivial, rfl⟩
  by_cases h3 : (1048576 : Int) < (n : Int) + (n2 : Int)
  all_goals
    go_enter Try.func16, Try.ntmps16
    go_wp2
    go_ret
    exact ⟨Answers.mk _ rfl trivial, rfl⟩

set_option maxHeartbeats 400000 in
theorem major17 (x t : Int) (_h0 : 0 ≤ x) (_h1 : x ≤ 255) (b o n c : Nat) (hn : 0 < n) (w : World) (hx : w.cell? ⟨b, o, none⟩ = some (.int .u8 x)) : Calls Try.prog 17 #[.slice (some ⟨b, o, none⟩) n c, .int .u8 t] w fun e w' => e = .returned (.bool (x / 32 == t)) ∧ w' = w := by
  have hnz : (0 : Int) < (n : Int) := by omega
  go_enter Try.func17, Try.ntmps17
  go_wp2
  go_ret
  exact ⟨rfl, rfl⟩

set_option maxHeartbeats 400000 in
theorem bytes14_no (x : Int) (h0 : 0 ≤ x) (h1 : x ≤ 255) (b o n c : Nat) (hn : 0 < n) (w : World) (hx : w.cell? ⟨b, o, none⟩ = some (.int .u8 x)) (h2 : x / 32 ≠ 2) : Calls Try.prog 14 #[.slice (some ⟨b, o, none⟩) n c] w fun e w' => e = .returned (.tuple #[.slice none 0 0, .bool false]) ∧ w' = w := by
  have e2 : (x / 32 == 2) = false := by simpa using h2
  go_enter Try.func14, Try.ntmps14
  go_wp2_with fail
  refine (major17 x 2 h0 h1 b o n c hn _ hx).mono ?_
  rintro e w' ⟨rfl, rfl⟩
  rw [e2]
  go_wp2
  go_ret2
  exact ⟨rfl, rfl⟩

set_option maxHeartbeats 400000 in
theorem bytes14_yes (x : Int) (h0 : 0 ≤ x) (h1 : x ≤ 255) (b o n c : Nat) (hn : 0 < n) (hc : n ≤ c) (w : World) (hx : w.cell? ⟨b, o, none⟩ = some (.int .u8 x)) (h2 : x / 32 = 2) (hz : hsz x ≤ n) : Calls Try.prog 14 #[.slice (some ⟨b, o, none⟩) n c] w fun e w' => (∃ a, (hsz x < n → a = some ⟨b, o + hsz x, none⟩) ∧ e = .returned (.tuple #[.slice a (n - hsz x) (c - hsz x), .bool true])) ∧ w' = w := by
  have e2 : (x / 32 == 2) = true := by simpa using h2
  obtain ⟨z, Hz⟩ : ∃ z, Aside (hsz x = z) := ⟨_, rfl⟩
  rw [Hz.out] at hz ⊢
  have hzc : (z : Int) ≤ (c : Int) := by omega
  have hzn : (z : Int) ≤ (n : Int) := by omega
  go_enter Try.func14, Try.ntmps14
  go_wp2_with fail
  refine (major17 x 2 h0 h1 b o n c hn _ hx).mono ?_
  rintro e w' ⟨rfl, rfl⟩
  rw [e2]
  go_wp2_with (go_at_call 9; refine (size9 x h0 h1 b o n c (by omega) _ hx).mono ?_; rintro e w' ⟨rfl, rfl⟩; rw [Hz.out])
  all_goals go_ret2
  · exact ⟨⟨_, fun h => by omega, rfl⟩, rfl⟩
  · exact ⟨⟨_, fun _ => rfl, rfl⟩, rfl⟩

set_option maxHeartbeats 800000 in
theorem same15 {w : World} {a1 a2 : Option Addr} {b1 b2 o1 o2 n c1 c2 : Nat} {X Y : Nat → Int} (h1 : BytesAt w a1 n X b1 o1) (h2 : BytesAt w a2 n Y b2 o2) (he : ∀ i, i < n → X i = Y i) (hn : n ≤ 1048576) :
    Calls Try.prog 15 #[.slice a1 n c1, .slice a2 n c2] w fun e w' => e = .returned (.bool true) ∧ w.Since w.heap.size w' := by
  have e1 : ((n : Int) != (n : Int)) = false := by simp
  go_enter Try.func15, Try.ntmps15
  go_wp2_with fail
  go_loopg [5] n (fun g s5 wr => w.Since w.heap.size wr ∧ ∃ k : Nat, k ≤ n ∧ g = n - k ∧ s5 = .int .i64 (k : Int))
  case atStart => exact ⟨World.Since.refl _ _, 0, Nat.zero_le _, rfl, rfl⟩
  case round =>
    obtain ⟨hs, k, hk, rfl, rfl⟩ := hrel
    by_cases hkn : k < n
    · have hkz : (k : Int) < (n : Int) := by omega
      obtain rfl := h1.addr (by omega)
      obtain rfl := h2.addr (by omega)
      have q1 := (h1.later hs (Nat.le_refl _)).cell k hkn
      have q2 := (h2.later hs (Nat.le_refl _)).cell k hkn
      rw [he k hkn] at q1
      have e2 : (Y k != Y k) = false := by simp
      go_wp2_with fail
      go_quiet (fail)
      go_wp2
      go_roundg (n - (k + 1))
      case measure => go_light; omega
      case rel =>
        go_light
        exact ⟨since_drewN hs _, k + 1, by omega, rfl, by simp⟩
    · have hkz : ¬ (k : Int) < (n : Int) := by omega
      go_wp2
      go_ret
      exact ⟨rfl, hs⟩
end Go.Proofs.Qxb6601482a
