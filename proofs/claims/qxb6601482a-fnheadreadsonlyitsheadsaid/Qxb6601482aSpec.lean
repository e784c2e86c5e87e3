/-
  FnHeadSpec (4): the law's walk.
-/
import Derived.Test.Qxb6601482aHeadArg
namespace Go.Proofs.Qxb6601482a
open Go.RowKit

set_option maxHeartbeats 400000 in
theorem bytes11 (a : Option Addr) (n c : Nat) (hn : n ≤ 9223372036854775807) (w : World) : Calls Try.prog 11 #[.slice a n c] w fun e w' => Answers (fun _ => True) e ∧ w' = w := by
  by_cases h : (1048576 : Int) < (n : Int)
  all_goals
    go_enter Try.func11, Try.ntmps11
    go_wp2
    go_ret
    exact ⟨Answers.mk _ rfl trivial, rfl⟩

theorem bdK_pos (k : Nat) : 0 < bdK k := by
  induction k with
  | zero => simp [bdK]
  | succ k ih => simp only [bdK]; omega
theorem bdK_add (a b : Nat) : bdK (a + b) = bdK a * bdK b := by
  induction b with
  | zero => simp [bdK]
  | succ b ih => rw [← Nat.add_assoc]; simp only [bdK]; rw [ih, Int.mul_assoc]
theorem bdK_pow (k : Nat) : (2 : Int) ^ (8 * k) = bdK k := by
  induction k with
  | zero => simp [bdK]
  | succ k ih => rw [show 8 * (k + 1) = 8 * k + 8 by omega, Int.pow_add, ih]; simp [bdK]
theorem bdK_8 {k : Nat} (hk : k ≤ 8) : bdK k ≤ 18446744073709551616 := by
  have : k = 0 ∨ k = 1 ∨ k = 2 ∨ k = 3 ∨ k = 4 ∨ k = 5 ∨ k = 6 ∨ k = 7 ∨ k = 8 := by omega
  rcases this with rfl | rfl | rfl | rfl | rfl | rfl | rfl | rfl | rfl <;> simp [bdK]
theorem want_step {X : Nat → Int} {n : Nat} (h : ∀ i, i < n → 0 ≤ X i ∧ X i ≤ 255) (z k : Nat) (hz : z ≤ n) (hz9 : z ≤ 9) (hk : k < z) (hk0 : 0 < k) :
    IntKind.u64.wrap (be X (k - 1) * bdK (z - k) + IntKind.u64.wrap (X k * 2 ^ (8 * (z - 1 - k)))) = be X (k + 1 - 1) * bdK (z - (k + 1)) := by
  rw [bdK_pow]
  obtain ⟨j, rfl⟩ : ∃ j, k = j + 1 := ⟨k - 1, by omega⟩
  obtain ⟨m, rfl⟩ : ∃ m, z = j + 1 + (m + 1) := ⟨z - (j + 1) - 1, by omega⟩
  have e1 : j + 1 + (m + 1) - (j + 1) = m + 1 := by omega
  have e2 : j + 1 + (m + 1) - 1 - (j + 1) = m := by omega
  have e3 : j + 1 + (m + 1) - (j + 1 + 1) = m := by omega
  rw [e1, e2, e3, Nat.add_sub_cancel, Nat.add_sub_cancel]
  obtain ⟨b0, b1⟩ := be_bd h (j + 1) (by omega)
  obtain ⟨c0, -⟩ := be_bd h j (by omega)
  obtain ⟨y0, y1⟩ := h (j + 1) (by omega)
  have q1 : be X (j + 1) * bdK m < bdK (j + 1) * bdK m := Int.mul_lt_mul_of_pos_right b1 (bdK_pos m)
  rw [← bdK_add] at q1
  have q2 := bdK_8 (show j + 1 + m ≤ 8 by omega)
  have q3 : 0 ≤ be X (j + 1) * bdK m := Int.mul_nonneg b0 (Int.le_of_lt (bdK_pos m))
  have q4 : be X (j + 1) * bdK m = be X j * bdK (m + 1) + X (j + 1) * bdK m := by
    simp only [be, bdK]
    rw [Int.add_mul, Int.mul_assoc, Int.mul_comm 256]
  have q5 : 0 ≤ X (j + 1) * bdK m := Int.mul_nonneg y0 (Int.le_of_lt (bdK_pos m))
  have q6 : 0 ≤ be X j * bdK (m + 1) := Int.mul_nonneg c0 (Int.le_of_lt (bdK_pos _))
  rw [IntKind.wrap_u64, IntKind.wrap_u64, q4]
  generalize be X j * bdK (m + 1) = A at *
  generalize X (j + 1) * bdK m = B at *
  omega

set_option maxHeartbeats 800000 in
theorem law4 {w : World} {a : Option Addr} {b o n c : Nat} {X : Nat → Int} (h : BytesAt w a n X b o) (hn : n ≤ 9223372036854775807) :
    Calls Try.prog 4 #[.slice a n c] w fun e w' => e = .returned (.bool true) ∧ w.Since w.heap.size w' := by
  go_enter Try.func4, Try.ntmps4
  go_wp2_with fail
  refine (bytes11 _ _ _ hn _).mono ?_
  rintro e w1 ⟨⟨b1, rfl, -⟩, rfl⟩
  cases b1
  · go_wp2
    go_ret
    exact ⟨rfl, World.Since.refl _ _⟩
  by_cases h1 : (1048576 : Int) < (n : Int)
  · go_wp2
    go_ret
    exact ⟨rfl, World.Since.refl _ _⟩
  by_cases h0 : n = 0
  · have h0z : ((n : Int) == 0) = true := by simp; omega
    go_wp2
    go_ret
    exact ⟨rfl, World.Since.refl _ _⟩
  have h0z : ((n : Int) == 0) = false := by simp; omega
  obtain rfl := h.addr (by omega)
  obtain ⟨x0, x1⟩ := h.bd 0 (by omega)
  have hx := h.cell 0 (by omega)
  rw [Nat.add_zero] at hx
  obtain ⟨x, Hx⟩ : ∃ x, Aside (X 0 = x) := ⟨_, rfl⟩
  rw [Hx.out] at x0 x1 hx
  have hnz : (0 : Int) < (n : Int) := by omega
  obtain ⟨z, Hz⟩ : ∃ z, Aside (hsz x = z) := ⟨_, rfl⟩
  have hz9 := (hsz_bd x).2
  have hz1 := (hsz_bd x).1
  rw [Hz.out] at hz9 hz1
  by_cases hnz2 : (n : Int) < (z : Int)
  · go_wp2_with (go_at_call 10; refine (len10 x x0 x1 _).mono ?_; rintro e w' ⟨rfl, rfl⟩; rw [Hz.out])
    go_ret
    exact ⟨rfl, World.Since.refl _ _⟩
  go_wp2_with (go_at_call 10; refine (len10 x x0 x1 _).mono ?_; rintro e w' ⟨rfl, rfl⟩; rw [Hz.out])
  refine (clone8 h (by omega)).mono ?_
  rintro e w2 ⟨a', b', c', rfl, s2, h2, -, -, -, hc⟩
  obtain rfl := h2.addr (by omega)
  have hx2 := h2.cell 0 (by omega)
  rw [Nat.add_zero, Hx.out] at hx2
  go_wp2_with fail
  refine (head12_any h2 (by omega) (by rw [Hx.out, Hz.out]; omega) hc).mono ?_
  rintro e w3 ⟨rfl, rfl⟩
  rw [Hx.out, Hz.out]
  by_cases hz : z = 1
  · subst hz
    have Ha : Aside (argOf X = x % 32) := by
      show argOf X = _
      simp only [argOf, Hx.out, Hz.out, if_true]
    rw [Ha.out]
    have e1 : (x / 32 == x / 32) = true := by simp
    have e2 : (x % 32 == x % 32) = true := by simp
    go_wp2
    go_ret
    exact ⟨by simp, s2⟩
  have Ha : Aside (argOf X = be X (z - 1)) := by
    show argOf X = _
    simp only [argOf, Hx.out, Hz.out, hz, if_false]
  rw [Ha.out]
  have hz1b : ((z : Int) == 1) = false := by simp; omega
  go_wp2_with fail
  go_loopg [7, 8] (z - 1) (fun g s7 s8 wr => wr = w3 ∧ ∃ k : Nat, 0 < k ∧ k ≤ z ∧ g = z - k ∧ s8 = .int .i64 (k : Int) ∧ s7 = .int .u64 (be X (k - 1) * bdK (z - k)))
  case atStart => exact ⟨rfl, 1, by omega, by omega, rfl, rfl, by simp [be]⟩
  case round =>
    obtain ⟨rfl, k, hk0, hk, rfl, rfl, rfl⟩ := hrel
    by_cases hkz : k < z
    · have hkzz : (k : Int) < (z : Int) := by omega
      have q := h2.cell k (by omega)
      obtain ⟨y0, y1⟩ := h2.bd k (by omega)
      rw [Nat.zero_add] at q
      have hkn : (k : Int) < (n : Int) := by omega
      have HW : Aside (_ = _) := want_step h2.bd z k (by omega) hz9 hkz hk0
      go_wp2
      go_roundg (z - (k + 1))
      case measure => go_light; omega
      case rel =>
        go_light
        exact ⟨rfl, k + 1, by omega, by omega, rfl, by simp, congrArg (Value.int .u64) HW.out⟩
    · obtain rfl : k = z := by omega
      have e5 : be X (k - 1) * bdK (k - k) = be X (k - 1) := by rw [Nat.sub_self]; simp [bdK]
      rw [e5]
      have e1 : (x / 32 == x / 32) = true := by simp
      have e2 : (be X (k - 1) == be X (k - 1)) = true := by simp
      go_wp2
      go_ret
      exact ⟨by simp, s2⟩
end Go.Proofs.Qxb6601482a
