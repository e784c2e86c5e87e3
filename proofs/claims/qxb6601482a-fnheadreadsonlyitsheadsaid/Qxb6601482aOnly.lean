/-
  FnHeadReadsOnlyItsHead (6): the law's walk.
-/
import Derived.Test.Qxb6601482aTrip0
namespace Go.Proofs.Qxb6601482a
open Go.RowKit

theorem be_congr {X Y : Nat → Int} {n : Nat} (h : ∀ i, i < n → X i = Y i) (k : Nat) (hk : k < n) : be X k = be Y k := by
  induction k with
  | zero => rfl
  | succ k ih => simp only [be]; rw [ih (by omega), h (k + 1) hk]
theorem argOf_congr {X Y : Nat → Int} (h : ∀ i, i < hsz (X 0) → X i = Y i) : argOf X = argOf Y := by
  have hb := hsz_bd (X 0)
  simp only [argOf]
  rw [← h 0 (by omega)]
  split
  · rfl
  · exact be_congr h _ (by omega)
/-- The new item's bytes. -/
def glue (z : Nat) (X T : Nat → Int) (i : Nat) : Int := if i < z then X i else T (i - z)
theorem glue_lo {z : Nat} {X T : Nat → Int} {i : Nat} (h : i < z) : glue z X T i = X i := by simp [glue, h]
theorem glue_hi {z : Nat} {X T : Nat → Int} (i : Nat) : glue z X T (z + i) = T i := by
  simp only [glue]
  rw [if_neg (by omega), Nat.add_sub_cancel_left]
theorem glue_bd {z n m : Nat} {X T : Nat → Int} (hz : z ≤ n) (hX : ∀ i, i < n → 0 ≤ X i ∧ X i ≤ 255) (hT : ∀ i, i < m → 0 ≤ T i ∧ T i ≤ 255) (i : Nat) (hi : i < z + m) : 0 ≤ glue z X T i ∧ glue z X T i ≤ 255 := by
  simp only [glue]
  split
  · exact hX i (by omega)
  · exact hT _ (by omega)
theorem BytesAt.fst {w : World} {a : Option Addr} {n z : Nat} {X : Nat → Int} {b o : Nat} (h : BytesAt w a n X b o) (hz : z ≤ n) : BytesAt w a z X b o :=
  ⟨fun h0 => h.addr (by omega), fun i hi => h.cell i (by omega), fun i hi => h.bd i (by omega)⟩

theorem BytesAt.drop {w : World} {a a' : Option Addr} {n z : Nat} {X : Nat → Int} {b o : Nat} (h : BytesAt w a n X b o) (ha : z < n → a' = some ⟨b, o + z, none⟩) : BytesAt w a' (n - z) (fun i => X (z + i)) b (o + z) :=
  ⟨fun h0 => ha (by omega), fun i hi => by rw [Nat.add_assoc]; exact h.cell _ (by omega), fun i hi => h.bd _ (by omega)⟩

set_option maxHeartbeats 1600000 in
theorem law6_in {w : World} {a a2 : Option Addr} {b o n c b2 o2 m c2 : Nat} {X T : Nat → Int} (h : BytesAt w a n X b o) (hT : BytesAt w a2 m T b2 o2) (hn : n ≤ 524288) (hm : m ≤ 524288) (hn0 : 0 < n) (hx : hsz (X 0) ≤ n) :
    Calls Try.prog 6 #[.slice a n c, .slice a2 m c2] w fun e w' => e = .returned (.bool true) ∧ w.Since w.heap.size w' := by
  obtain ⟨i0, hi, hz0, hz1, hz2⟩ := info_parts Try.info5
  have hcap : n + m + 9 ≤ maxLen := by unfold maxLen; omega
  have hb1 : ¬ (524288 : Int) < (n : Int) := by omega
  have hb2 : ¬ (524288 : Int) < (m : Int) := by omega
  have h0z : ((n : Int) == 0) = false := by simp; omega
  have hnz : (0 : Int) < (n : Int) := by omega
  obtain rfl := h.addr (by omega)
  obtain ⟨x0, x1⟩ := h.bd 0 (by omega)
  have hxc := h.cell 0 (by omega)
  rw [Nat.add_zero] at hxc
  obtain ⟨x, Hx⟩ : ∃ x, Aside (X 0 = x) := ⟨_, rfl⟩
  rw [Hx.out] at x0 x1 hxc hx
  obtain ⟨z, Hz⟩ : ∃ z, Aside (hsz x = z) := ⟨_, rfl⟩
  have hz9 := (hsz_bd x).2
  have hzp := (hsz_bd x).1
  rw [Hz.out] at hz9 hzp hx
  obtain ⟨Z, HZ⟩ : ∃ Z, Aside (glue z X T = Z) := ⟨_, rfl⟩
  obtain ⟨ag, Hag⟩ : ∃ x, Aside (argOf X = x) := ⟨_, rfl⟩
  have HZl : Aside (∀ i, i < z → Z i = X i) := fun i hi => by rw [← HZ.out, glue_lo hi]
  have HZ0 : Aside (Z 0 = x) := by show _ = _; rw [HZl.out 0 (by omega), Hx.out]
  have HZa : Aside (argOf Z = ag) := by
    show _ = _
    rw [← Hag.out]
    exact argOf_congr (fun i hi => HZl.out i (by rwa [HZ0.out, Hz.out] at hi))
  have HZt : Aside (∀ i, i < m → Z (z + i) = T i) := fun i _ => by rw [← HZ.out, glue_hi]
  have HZb : Aside (∀ i, i < z + m → 0 ≤ Z i ∧ Z i ≤ 255) := by rw [← HZ.out]; exact glue_bd hx h.bd hT.bd
  have HZe : Aside (bl X z ++ bl T m = bl Z (z + m)) := by
    show _ = _
    rw [← bl_congr HZl.out, bl_append HZt.out]
  have hzn : ¬ (n : Int) < (z : Int) := by omega
  have hzn2 : (z : Int) ≤ (n : Int) := by omega
  have hz0n : ¬ (z : Int) < 0 := by omega
  have eq1 : (x / 32 != x / 32) = false := by simp
  have eq2 : (ag != ag) = false := by simp
  have eq3 : ((z : Int) != (z : Int)) = false := by simp
  clear HZ
  go_enter Try.func6, Try.ntmps6
  go_wp2_with fail
  refine (bytes16 _ _ _ _ _ _ (by omega) (by omega) _).mono ?_
  rintro e w1 ⟨⟨b1, rfl, -⟩, rfl⟩
  cases b1
  · go_wp2
    go_ret
    exact ⟨rfl, World.Since.refl _ _⟩
  go_wp2_with (go_at_call 10; refine (len10 x x0 x1 _).mono ?_; rintro e w' ⟨rfl, rfl⟩; rw [Hz.out])
  refine (clone8b h (by omega)).mono ?_
  rintro e w2 ⟨a', b', c', rfl, s2, h2, -, hc⟩
  obtain rfl := h2.addr (by omega)
  go_wp2_with fail
  refine (clone8b (hT.later s2 (Nat.le_refl _)) (by omega)).mono ?_
  rintro e w3 ⟨a3, b3, c3, rfl, s3, h3, hnil, hc3⟩
  have h23 := h2.later s3 (Nat.le_refl _)
  have hxz : (z : Int) ≤ (c' : Int) := by omega
  go_wp2_with (first
    | (at_make; refine wpList_make_own _ rfl _ _ 22 rfl w3.heap.size 5 i0 (.int .u8 0) 1 Try.underlying22 hi hz0 hz1 _ _ _ (z + m) rfl rfl (by omega) (by rw [hz2]; omega) (by omega) (Nat.le_refl _) ?_; intro w4 own4 g4; have s4 : w3.Since w3.heap.size w4 := since_grown0 (World.Since.refl _ _) g4; have hc4 := cells_of ((h23.later s4 (Nat.le_refl _)).fst hx))
    | (at_builtin; refine wpList_append_fits_any _ rfl (.tmp 48) (.tmp 51) 22 rfl w3.heap.size 5 i0 1 Try.underlying22 hi hz1 w3.heap.size 0 (z + m) _ rfl own4 _ _ _ (bl X z) rfl (by rw [bl_length]; omega) (fun e => by cases e) hc4 (bl_oneCell _ _) (by omega) ?_; intro w5 own5 g5; simp only [Nat.zero_add, List.nil_append] at own5; have s5 : w3.Since w3.heap.size w5 := since_grown s4 g5 (Nat.le_refl _); have hc5 := cells_of (h3.later s5 (Nat.le_refl _)))
    | (at_builtin; refine wpList_append_fits_any _ rfl (.tmp 53) (.tmp 54) 22 rfl w3.heap.size 5 i0 1 Try.underlying22 hi hz1 w3.heap.size z (z + m) _ rfl own5 _ _ _ (bl T m) rfl (by rw [bl_length]; omega) hnil hc5 (bl_oneCell _ _) (by omega) ?_; intro w6 own6 g6; rw [HZe.out] at own6; have s6 : w3.Since w3.heap.size w6 := since_grown s5 g6 (Nat.le_refl _)))
  have hD := h23.later s6 (Nat.le_refl _)
  have hO := BytesAt.ofOwn own6 HZb.out
  have hW := h3.later s6 (Nat.le_refl _)
  have hdx := hD.cell 0 (by omega)
  have hox := hO.cell 0 (by omega)
  rw [Nat.add_zero, Hx.out] at hdx
  rw [Nat.add_zero, HZ0.out] at hox
  refine (head12_any hD (by omega) (by rw [Hx.out, Hz.out]; omega) (by omega)).mono ?_
  rintro e w7 ⟨rfl, rfl⟩
  rw [Hx.out, Hz.out, Hag.out]
  go_wp2_with fail
  refine (head12_any hO (by omega) (by rw [HZ0.out, Hz.out]; omega) (by omega)).mono ?_
  rintro e w8 ⟨rfl, rfl⟩
  rw [HZ0.out, Hz.out, HZa.out]
  go_wp2_with fail
  refine (size9 x x0 x1 _ 0 _ _ (by omega) _ hox).mono ?_
  rintro e w9 ⟨rfl, rfl⟩
  rw [Hz.out]
  go_wp2_with fail
  refine (size9 x x0 x1 _ 0 _ _ (by omega) _ hdx).mono ?_
  rintro e w10 ⟨rfl, rfl⟩
  rw [Hz.out]
  go_wp2_with fail
  go_loopg [13] 256 (fun g s13 wr => wr = w10 ∧ ∃ k : Nat, k ≤ 256 ∧ g = 256 - k ∧ s13 = .int .i64 (k : Int))
  case atStart => exact ⟨rfl, 0, Nat.zero_le _, rfl, rfl⟩
  case round =>
    obtain ⟨rfl, k, hk, hg, rfl⟩ := hrel
    by_cases hk2 : k < 256
    · have hkz : (k : Int) < 256 := by omega
      go_wp2_with fail
      refine (major17 x _ x0 x1 _ 0 _ _ (by omega) _ hdx).mono ?_
      rintro e w11 ⟨rfl, rfl⟩
      rw [show (x / 32 == (k : Int)) = ((k : Int) == x / 32) from by rw [Bool.eq_iff_iff]; simp only [beq_iff_eq]; exact ⟨Eq.symm, Eq.symm⟩]
      have ev : (((k : Int) == x / 32) != ((k : Int) == x / 32)) = false := by simp
      go_wp2
      go_roundg (256 - (k + 1))
      case measure => go_light; omega
      case rel =>
        go_light
        exact ⟨rfl, k + 1, by omega, rfl, by simp⟩
    · have hkz : ¬ (k : Int) < 256 := by omega
      clear hk hg
      by_cases hx2 : x / 32 = 2
      · have eA : (x / 32 == 2) = true := by simpa using hx2
        go_wp2_with fail
        refine (bytes14_yes x x0 x1 _ 0 _ _ (by omega) (by omega) _ hdx hx2 (by rw [Hz.out]; omega)).mono ?_
        rintro e w11 ⟨⟨a4, ha4, rfl⟩, rfl⟩
        rw [Hz.out] at ha4 ⊢
        go_wp2_with fail
        refine (bytes14_yes x x0 x1 _ 0 _ _ (by omega) (by omega) _ hox hx2 (by rw [Hz.out]; omega)).mono ?_
        rintro e w12 ⟨⟨a5, ha5, rfl⟩, rfl⟩
        rw [Hz.out] at ha5 ⊢
        rw [Nat.add_sub_cancel_left]
        go_wp2_with fail
        all_goals
          refine (same15 (hD.drop ha4) (hD.drop (fun h => by first | (exfalso; omega) | (rw [Nat.zero_add]))) (fun _ _ => rfl) (by omega)).mono ?_
          rintro e w13 ⟨rfl, s13⟩
          go_wp2_with fail
          refine (same15 ((content_at own6 rfl ha5 HZt.out h3.bd).later s13 (Nat.le_refl _)) (hW.later s13 (Nat.le_refl _)) (fun _ _ => rfl) (by omega)).mono ?_
          rintro e w14 ⟨rfl, s14⟩
          go_wp2
          go_ret
          exact ⟨rfl, since_chain (since_chain (since_chain (since_chain s2 s3) s6) s13) s14⟩
      · have eA : (x / 32 == 2) = false := by simpa using hx2
        have hnl := fun w a n c => Lib.run_eql_slice_nil (P := Try.prog) w 22 5 a n c 0 0 Try.underlying22
        go_wp2_with fail
        refine (bytes14_no x x0 x1 _ 0 _ _ (by omega) _ hdx hx2).mono ?_
        rintro e w11 ⟨rfl, rfl⟩
        go_wp2_with fail
        refine (bytes14_no x x0 x1 _ 0 _ _ (by omega) _ hox hx2).mono ?_
        rintro e w12 ⟨rfl, rfl⟩
        go_wp2
        go_ret
        exact ⟨rfl, since_chain (since_chain s2 s3) s6⟩

set_option maxHeartbeats 1600000 in
theorem law6_out (a a2 : Option Addr) (n c m c2 : Nat) (w : World) (hn : n ≤ 9223372036854775807) (hm : m ≤ 9223372036854775807) (hg : (524288 : Int) < (n : Int) ∨ (524288 : Int) < (m : Int) ∨ n = 0) :
    Calls Try.prog 6 #[.slice a n c, .slice a2 m c2] w fun e w' => e = .returned (.bool true) ∧ w.Since w.heap.size w' := by
  by_cases h1 : (524288 : Int) < (n : Int)
  · go_enter Try.func6, Try.ntmps6
    go_wp2_with fail
    refine (bytes16 _ _ _ _ _ _ hn hm _).mono ?_
    rintro e w1 ⟨⟨b1, rfl, -⟩, rfl⟩
    cases b1
    all_goals
      go_wp2
      go_ret
      exact ⟨rfl, World.Since.refl _ _⟩
  by_cases h2 : (524288 : Int) < (m : Int)
  · go_enter Try.func6, Try.ntmps6
    go_wp2_with fail
    refine (bytes16 _ _ _ _ _ _ hn hm _).mono ?_
    rintro e w1 ⟨⟨b1, rfl, -⟩, rfl⟩
    cases b1
    all_goals
      go_wp2
      go_ret
      exact ⟨rfl, World.Since.refl _ _⟩
  obtain rfl : n = 0 := by omega
  go_enter Try.func6, Try.ntmps6
  go_wp2_with fail
  refine (bytes16 _ _ _ _ _ _ (by omega) hm _).mono ?_
  rintro e w1 ⟨⟨b1, rfl, -⟩, rfl⟩
  cases b1
  all_goals
    go_wp2
    go_ret
    exact ⟨rfl, World.Since.refl _ _⟩

set_option maxHeartbeats 1600000 in
theorem law6_short {w : World} {a a2 : Option Addr} {b o n c m c2 : Nat} {X : Nat → Int} (h : BytesAt w a n X b o) (hn : n ≤ 524288) (hm : m ≤ 524288) (hn0 : 0 < n) (hx : n < hsz (X 0)) :
    Calls Try.prog 6 #[.slice a n c, .slice a2 m c2] w fun e w' => e = .returned (.bool true) ∧ w.Since w.heap.size w' := by
  have hb1 : ¬ (524288 : Int) < (n : Int) := by omega
  have hb2 : ¬ (524288 : Int) < (m : Int) := by omega
  have h0z : ((n : Int) == 0) = false := by simp; omega
  have hnz : (0 : Int) < (n : Int) := by omega
  obtain rfl := h.addr (by omega)
  obtain ⟨x0, x1⟩ := h.bd 0 (by omega)
  have hxc := h.cell 0 (by omega)
  rw [Nat.add_zero] at hxc
  obtain ⟨x, Hx⟩ : ∃ x, Aside (X 0 = x) := ⟨_, rfl⟩
  rw [Hx.out] at x0 x1 hxc hx
  obtain ⟨z, Hz⟩ : ∃ z, Aside (hsz x = z) := ⟨_, rfl⟩
  have hz9 := (hsz_bd x).2
  rw [Hz.out] at hx hz9
  have hzn : (n : Int) < (z : Int) := by omega
  go_enter Try.func6, Try.ntmps6
  go_wp2_with fail
  refine (bytes16 _ _ _ _ _ _ (by omega) (by omega) _).mono ?_
  rintro e w1 ⟨⟨b1, rfl, -⟩, rfl⟩
  cases b1
  · go_wp2
    go_ret
    exact ⟨rfl, World.Since.refl _ _⟩
  go_wp2_with (go_at_call 10; refine (len10 x x0 x1 _).mono ?_; rintro e w' ⟨rfl, rfl⟩; rw [Hz.out])
  go_ret
  exact ⟨rfl, World.Since.refl _ _⟩

theorem law6 {w : World} {a a2 : Option Addr} {b o n c b2 o2 m c2 : Nat} {X T : Nat → Int} (h : BytesAt w a n X b o) (hT : BytesAt w a2 m T b2 o2) (hn : n ≤ 9223372036854775807) (hm : m ≤ 9223372036854775807) :
    Calls Try.prog 6 #[.slice a n c, .slice a2 m c2] w fun e w' => e = .returned (.bool true) ∧ w.Since w.heap.size w' := by
  by_cases hg : (524288 : Int) < (n : Int) ∨ (524288 : Int) < (m : Int) ∨ n = 0
  · exact law6_out _ _ _ _ _ _ _ hn hm hg
  by_cases hx : hsz (X 0) ≤ n
  · exact law6_in h hT (by omega) (by omega) (by omega) hx
  · exact law6_short h (by omega) (by omega) (by omega) (by omega)
end Go.Proofs.Qxb6601482a
