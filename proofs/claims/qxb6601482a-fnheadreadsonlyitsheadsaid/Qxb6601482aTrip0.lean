/-
  FnHeadRoundTrip (5): the argument in the first byte; the guards; the whole.
-/
import Derived.Test.Qxb6601482aTrip
namespace Go.Proofs.Qxb6601482a
open Go.RowKit

theorem cells_of {w : World} {a : Option Addr} {n b o : Nat} {X : Nat → Int} (h : BytesAt w a n X b o) : ∀ ad, a = some ad → ∀ j u, (bl X n)[j]? = some u → w.cell? (ad.add j) = some u := fun ad e j u hu => by
  obtain ⟨hj, rfl⟩ := bl_lt hu
  have := h.addr (by omega)
  rw [e] at this
  obtain rfl := Option.some.inj this
  rw [Addr.add_lit]
  exact h.cell j hj

set_option maxHeartbeats 3200000 in
theorem law5_zero (major : Int) (m0 : 0 ≤ major) (m7 : major ≤ 7) (arg : Int) (a0 : 0 ≤ arg) (ha : arg < 24)
    {w : World} {a : Option Addr} {b o n c : Nat} {X : Nat → Int} (h : BytesAt w a n X b o) (hn : n ≤ 1048576) :
    Calls Try.prog 5 #[.int .u8 major, .int .u8 0, .int .u64 arg, .slice a n c] w fun e w' => e = .returned (.bool true) ∧ w.Since w.heap.size w' := by
  obtain ⟨i0, hi, hz0, hz1, hz2⟩ := info_parts Try.info5
  have hm7 : ¬ 7 < major := by omega
  have hbig : ¬ (1048576 : Int) < (n : Int) := by omega
  have hcap : n + 9 ≤ maxLen := by unfold maxLen; omega
  have Hf : Aside (hsz (major * 32 + arg) = 1) := by
    show hsz (major * 32 + arg) = 1
    simp only [hsz]
    rw [if_pos (by omega)]
  obtain ⟨Z, HZ⟩ : ∃ Z, Aside (enc (major * 32 + arg) 0 arg X = Z) := ⟨_, rfl⟩
  have HE : Aside (bits .or .u8 (major * 32) arg = major * 32 + arg) := or_major' major arg m0 m7 a0 (by omega)
  have HZ1 : Aside ([Value.int .u8 (bits .or .u8 (major * 32) arg)] = bl Z 1) := by show _ = _; rw [HE.out, ← HZ.out]; rfl
  have HZ0 : Aside (Z 0 = major * 32 + arg) := by show _ = _; rw [← HZ.out]; rfl
  have HZm : Aside (Z 0 / 32 = major) := by show _ = _; rw [HZ0.out]; omega
  have HZa : Aside (argOf Z = arg) := by show _ = _; rw [← HZ.out]; exact arg_enc0 Hf.out (by omega)
  have HZs : Aside (hsz (Z 0) = 1) := by show _ = _; rw [HZ0.out]; exact Hf.out
  have HZi : Aside (((hsz (Z 0) : Nat) : Int) = 1) := by show _ = _; rw [HZs.out]; rfl
  have HZt : Aside (∀ i, i < n → Z (1 + i) = X i) := fun i _ => by rw [← HZ.out]; exact enc_tail _ 0 _ _ i
  have HZb : Aside (∀ i, i < 1 + n → 0 ≤ Z i ∧ Z i ≤ 255) := fun i hi => by rw [← HZ.out]; exact enc_bd (nb := 0) (by omega) h.bd i hi
  have em : (major != major) = false := by simp
  have ea : (arg != arg) = false := by simp
  clear HZ HE Hf
  go_enter Try.func5, Try.ntmps5
  go_wp2_with fail
  refine (bytes13 _ _ _ _ _ _ (by omega) _).mono ?_
  rintro e w1 ⟨⟨b1, rfl, -⟩, rfl⟩
  cases b1
  · go_wp2
    go_ret
    exact ⟨rfl, World.Since.refl _ _⟩
  go_wp2_with fail
  refine (clone8b h hn).mono ?_
  rintro e w2 ⟨a', b', c', rfl, s2, h2, hnil, hc⟩
  go_wp2_with (first
    | (at_make; refine wpList_make_own _ rfl _ _ 22 rfl w2.heap.size 5 i0 (.int .u8 0) 1 Try.underlying22 hi hz0 hz1 _ _ _ (9 + n) rfl rfl (by omega) (by rw [hz2]; omega) (by omega) (Nat.le_refl _) ?_; intro w3 own3 g3)
    | (at_builtin; refine wpList_append_fits _ rfl (.tmp 74) (.tmp 80) 22 rfl w2.heap.size 5 i0 1 Try.underlying22 hi hz1 w2.heap.size 0 (9 + n) _ rfl (own3.alloc _) ⟨w3.heap.size, 0, none⟩ 1 1 [.int .u8 (bits .or .u8 (major * 32) _)] rfl rfl one_cell (by intro u hu; simp at hu; subst hu; rfl) (by omega) ?_; intro w4 own4 g4; rw [List.nil_append, HZ1.out] at own4; have s4 : w2.Since w2.heap.size w4 := since_grown ((since_grown0 (World.Since.refl _ _) g3).alloc g3.size _) g4 (Nat.le_refl _); have hcell := cells_of (h2.later s4 (Nat.le_refl _)); clear own3 g3 g4)
    | (at_builtin; refine wpList_append_fits_any _ rfl (.tmp 105) (.tmp 106) 22 rfl w2.heap.size 5 i0 1 Try.underlying22 hi hz1 w2.heap.size 1 (9 + n) _ rfl own4 _ _ _ (bl X n) rfl (by rw [bl_length]; omega) hnil hcell (bl_oneCell _ _) (by omega) ?_; intro w7 own7 g7))
  rw [bl_append HZt.out] at own7
  have s7 : w2.Since w2.heap.size w7 := since_grown s4 g7 (Nat.le_refl _)
  have hB := BytesAt.ofOwn own7 HZb.out
  have hx := hB.cell 0 (by omega)
  rw [Nat.add_zero] at hx
  obtain ⟨x0, x1⟩ := hB.bd 0 (by omega)
  refine (head12_any hB (by omega) (by rw [HZs.out]; omega) (by omega)).mono ?_
  rintro e w8 ⟨rfl, rfl⟩
  rw [HZm.out, HZa.out, HZi.out]
  go_wp2_with fail
  refine (size9 _ x0 x1 _ 0 _ _ (by omega) _ hx).mono ?_
  rintro e w9 ⟨rfl, rfl⟩
  rw [HZi.out]
  by_cases hm2 : major = 2
  · subst hm2
    go_wp2_with fail
    refine (bytes14_yes _ x0 x1 _ 0 _ _ (by omega) (by omega) _ hx HZm.out (by rw [HZs.out]; omega)).mono ?_
    rintro e w10 ⟨⟨a2, ha2, rfl⟩, rfl⟩
    have e1 : 1 + n - hsz (Z 0) = n := by rw [HZs.out]; omega
    have hC := content_at own7 HZs.out ha2 HZt.out h2.bd
    rw [e1]
    go_wp2_with fail
    refine (same15 hC (h2.later s7 (Nat.le_refl _)) (fun _ _ => rfl) hn).mono ?_
    rintro e w11 ⟨rfl, s11⟩
    go_wp2
    go_ret
    exact ⟨rfl, since_chain (since_chain s2 s7) s11⟩
  · have hm2b : (major == 2) = false := by simpa using hm2
    have hnl := fun w a n c => Lib.run_eql_slice_nil (P := Try.prog) w 22 5 a n c 0 0 Try.underlying22
    go_wp2_with fail
    refine (bytes14_no _ x0 x1 _ 0 _ _ (by omega) _ hx (by rw [HZm.out]; exact hm2)).mono ?_
    rintro e w10 ⟨rfl, rfl⟩
    go_wp2
    go_ret
    exact ⟨rfl, since_chain s2 s7⟩

set_option maxHeartbeats 1600000 in
/-- The guards: outside the law's domain it answers true at once. -/
theorem law5_out (major wd arg : Int) (hg : 7 < major ∨ 4 < wd ∨ (wd = 0 ∧ 24 ≤ arg) ∨ (wd = 1 ∧ 255 < arg) ∨ (wd = 2 ∧ 65535 < arg) ∨ (wd = 3 ∧ 4294967295 < arg)) (a : Option Addr) (n c : Nat) (hn : n ≤ 1048576) (w : World) :
    Calls Try.prog 5 #[.int .u8 major, .int .u8 wd, .int .u64 arg, .slice a n c] w fun e w' => e = .returned (.bool true) ∧ w.Since w.heap.size w' := by
  have hbig : ¬ (1048576 : Int) < (n : Int) := by omega
  by_cases hm : 7 < major
  · clear hg
    go_enter Try.func5, Try.ntmps5
    go_wp2_with fail
    refine (bytes13 _ _ _ _ _ _ (by omega) _).mono ?_
    rintro e w1 ⟨⟨b1, rfl, -⟩, rfl⟩
    cases b1
    all_goals
      go_wp2
      go_ret
      exact ⟨rfl, World.Since.refl _ _⟩
  by_cases hw4 : 4 < wd
  · clear hg
    go_enter Try.func5, Try.ntmps5
    go_wp2_with fail
    refine (bytes13 _ _ _ _ _ _ (by omega) _).mono ?_
    rintro e w1 ⟨⟨b1, rfl, -⟩, rfl⟩
    cases b1
    all_goals
      go_wp2
      go_ret
      exact ⟨rfl, World.Since.refl _ _⟩
  have hg2 : (wd = 0 ∧ 24 ≤ arg) ∨ (wd = 1 ∧ 255 < arg) ∨ (wd = 2 ∧ 65535 < arg) ∨ (wd = 3 ∧ 4294967295 < arg) := by omega
  clear hg hw4
  rcases hg2 with ⟨rfl, hA⟩ | ⟨rfl, hA⟩ | ⟨rfl, hA⟩ | ⟨rfl, hA⟩
  all_goals
    go_enter Try.func5, Try.ntmps5
    go_wp2_with fail
    refine (bytes13 _ _ _ _ _ _ (by omega) _).mono ?_
    rintro e w1 ⟨⟨b1, rfl, -⟩, rfl⟩
    cases b1
    all_goals
      go_wp2
      go_ret
      exact ⟨rfl, World.Since.refl _ _⟩

set_option maxHeartbeats 1600000 in
theorem law5_long (major wd arg : Int) (a : Option Addr) (n c : Nat) (hn : n ≤ 9223372036854775807) (hb : (1048576 : Int) < (n : Int)) (w : World) :
    Calls Try.prog 5 #[.int .u8 major, .int .u8 wd, .int .u64 arg, .slice a n c] w fun e w' => e = .returned (.bool true) ∧ w.Since w.heap.size w' := by
  go_enter Try.func5, Try.ntmps5
  go_wp2_with fail
  refine (bytes13 _ _ _ _ _ _ hn _).mono ?_
  rintro e w1 ⟨⟨b1, rfl, -⟩, rfl⟩
  cases b1
  all_goals
    go_wp2
    go_ret
    exact ⟨rfl, World.Since.refl _ _⟩

theorem law5 (major wd arg : Int) (m0 : 0 ≤ major) (d0 : 0 ≤ wd) (a0 : 0 ≤ arg) (a1 : arg < 18446744073709551616)
    {w : World} {a : Option Addr} {b o n c : Nat} {X : Nat → Int} (h : BytesAt w a n X b o) (hn : n ≤ 9223372036854775807) :
    Calls Try.prog 5 #[.int .u8 major, .int .u8 wd, .int .u64 arg, .slice a n c] w fun e w' => e = .returned (.bool true) ∧ w.Since w.heap.size w' := by
  by_cases hb : (1048576 : Int) < (n : Int)
  · exact law5_long _ _ _ _ _ _ hn hb _
  by_cases hg : 7 < major ∨ 4 < wd ∨ (wd = 0 ∧ 24 ≤ arg) ∨ (wd = 1 ∧ 255 < arg) ∨ (wd = 2 ∧ 65535 < arg) ∨ (wd = 3 ∧ 4294967295 < arg)
  · exact law5_out _ _ _ hg _ _ _ (by omega) _
  have hw : wd = 0 ∨ wd = 1 ∨ wd = 2 ∨ wd = 3 ∨ wd = 4 := by omega
  rcases hw with rfl | rfl | rfl | rfl | rfl
  · exact law5_zero major m0 (by omega) arg a0 (by omega) h (by omega)
  · exact law5_wide major m0 (by omega) 1 arg 24 2 1 a0 (by simp [bdK]; omega) (.inl ⟨rfl, rfl, rfl, rfl⟩) h (by omega)
  · exact law5_wide major m0 (by omega) 2 arg 25 3 2 a0 (by simp [bdK]; omega) (.inr (.inl ⟨rfl, rfl, rfl, rfl⟩)) h (by omega)
  · exact law5_wide major m0 (by omega) 3 arg 26 5 4 a0 (by simp [bdK]; omega) (.inr (.inr (.inl ⟨rfl, rfl, rfl, rfl⟩))) h (by omega)
  · exact law5_wide major m0 (by omega) 4 arg 27 9 8 a0 (by simp [bdK]; omega) (.inr (.inr (.inr ⟨rfl, rfl, rfl, rfl⟩))) h (by omega)
end Go.Proofs.Qxb6601482a
