/-
  FnHeadRoundTrip (5): the law's walk.
-/
import Derived.Test.Qxb6601482aOwn
namespace Go.Proofs.Qxb6601482a
open Go.RowKit

theorem or_major' (x y : Int) (h0 : 0 ≤ x) (h1 : x ≤ 7) (y0 : 0 ≤ y) (y1 : y < 32) : bits .or .u8 (x * 32) y = x * 32 + y := by
  have e1 : IntKind.u8.wrap (x * 32) = x * 32 := by rw [IntKind.wrap_u8']; omega
  have := or_major x y h0 h1 y0 y1
  rwa [e1] at this
theorem one_cell {w : World} {v : Value} {t : TypeId} : ∀ j u, [v][j]? = some u → (w.alloc (.cells #[v] t)).cell? (Addr.add ⟨w.heap.size, 0, none⟩ j) = some u := by
  intro j u h
  match j, h with
  | 0, h => simp at h; subst h; simp [Addr.add]

theorem content_at {w : World} {g k n cap base z : Nat} {Z X : Nat → Int} {a : Option Addr} (h : w.ownsRow base 5 1 (.slice (some ⟨g, 0, none⟩) (k + n) cap) (k + n) (bl Z (k + n))) (hz : z = k) (ha : z < k + n → a = some ⟨g, 0 + z, none⟩)
    (hZ : ∀ i, i < n → Z (k + i) = X i) (hX : ∀ i, i < n → 0 ≤ X i ∧ X i ≤ 255) : BytesAt w a n X g z := by
  subst hz
  refine ⟨fun hn => by rw [ha (by omega), Nat.zero_add], fun i hi => ?_, hX⟩
  rw [h.cellAt (z + i) (by omega), bl_get (by omega), hZ i hi]

set_option maxHeartbeats 3200000 in
theorem law5_wide (major : Int) (m0 : 0 ≤ major) (m7 : major ≤ 7) (wd arg f s : Int) (nb : Nat) (a0 : 0 ≤ arg) (ha : arg < bdK nb)
    (hw : (wd = 1 ∧ nb = 1 ∧ f = 24 ∧ s = 2) ∨ (wd = 2 ∧ nb = 2 ∧ f = 25 ∧ s = 3) ∨ (wd = 3 ∧ nb = 4 ∧ f = 26 ∧ s = 5) ∨ (wd = 4 ∧ nb = 8 ∧ f = 27 ∧ s = 9))
    {w : World} {a : Option Addr} {b o n c : Nat} {X : Nat → Int} (h : BytesAt w a n X b o) (hn : n ≤ 1048576) :
    Calls Try.prog 5 #[.int .u8 major, .int .u8 wd, .int .u64 arg, .slice a n c] w fun e w' => e = .returned (.bool true) ∧ w.Since w.heap.size w' := by
  obtain ⟨i0, hi, hz0, hz1, hz2⟩ := info_parts Try.info5
  have hm7 : ¬ 7 < major := by omega
  have hbig : ¬ (1048576 : Int) < (n : Int) := by omega
  have Ha : Aside (arg < bdK nb) := ha
  have hcap : n + 9 ≤ maxLen := by unfold maxLen; omega
  have Hf : Aside (hsz (major * 32 + f) = 1 + nb) := by
    show hsz (major * 32 + f) = 1 + nb
    simp only [hsz]
    rcases hw with ⟨rfl, rfl, rfl, -⟩ | ⟨rfl, rfl, rfl, -⟩ | ⟨rfl, rfl, rfl, -⟩ | ⟨rfl, rfl, rfl, -⟩
    · rw [if_neg (by omega), if_pos (by omega)]
    · rw [if_neg (by omega), if_neg (by omega), if_pos (by omega)]
    · rw [if_neg (by omega), if_neg (by omega), if_neg (by omega), if_pos (by omega)]
    · rw [if_neg (by omega), if_neg (by omega), if_neg (by omega), if_neg (by omega), if_pos (by omega)]
  have Hb : Aside (0 ≤ f ∧ f < 32) := by show 0 ≤ f ∧ f < 32; omega
  have Hnb : Aside (0 < nb ∧ nb ≤ 8 ∧ s = 1 + (nb : Int)) := by show _ ∧ _; omega
  obtain ⟨Z, HZ⟩ : ∃ Z, Aside (enc (major * 32 + f) nb arg X = Z) := ⟨_, rfl⟩
  have HE : Aside (bits .or .u8 (major * 32) f = major * 32 + f) := or_major' major f m0 m7 Hb.out.1 Hb.out.2
  have HZ1 : Aside ([Value.int .u8 (bits .or .u8 (major * 32) f)] = bl Z 1) := by show _ = _; rw [HE.out, ← HZ.out]; rfl
  have HZ0 : Aside (Z 0 = major * 32 + f) := by show _ = _; rw [← HZ.out]; rfl
  have HZm : Aside (Z 0 / 32 = major) := by show _ = _; have := Hb.out; rw [HZ0.out]; omega
  have HZa : Aside (argOf Z = arg) := by show _ = _; rw [← HZ.out]; exact arg_enc a0 ha Hnb.out.1 Hf.out
  have HZs : Aside (hsz (Z 0) = 1 + nb) := by show _ = _; rw [HZ0.out]; exact Hf.out
  have HZi : Aside (((hsz (Z 0) : Nat) : Int) = s) := by show _ = _; rw [HZs.out, Hnb.out.2.2]; simp
  have HZk : Aside (∀ j k, j + 1 + k = nb → arg / 2 ^ (8 * j) % 256 = Z (1 + k)) := fun j k e => by rw [← HZ.out, bdK_pow, enc_arg _ nb arg X e]
  have HZt : Aside (∀ i, i < n → Z (1 + nb + i) = X i) := fun i _ => by rw [← HZ.out, enc_tail]
  have HZb : Aside (∀ i, i < 1 + nb + n → 0 ≤ Z i ∧ Z i ≤ 255) := fun i hi => by rw [← HZ.out]; exact enc_bd (by have := Hb.out; omega) h.bd i hi
  have em : (major != major) = false := by simp
  have ea : (arg != arg) = false := by simp
  clear ha HZ HE Hf
  rcases hw with ⟨rfl, rfl, rfl, rfl⟩ | ⟨rfl, rfl, rfl, rfl⟩ | ⟨rfl, rfl, rfl, rfl⟩ | ⟨rfl, rfl, rfl, rfl⟩
  · have ht : ¬ 255 < arg := by have := Ha.out; simp only [bdK] at this; omega
    go_enter Try.func5, Try.ntmps5
    go_wp2_with fail
    refine (bytes13 _ _ _ _ _ _ (by omega) _).mono ?_
    rintro e w1 ⟨⟨b1, rfl, -⟩, rfl⟩
    cases b1
    · go_wp2
      go_ret
      exact ⟨rfl, World.Since.refl _ _⟩
    go_wp2_with fail
    refine (clone8b h hn).mono ?_
    rintro e w2 ⟨a', b', c', rfl, s2, h2, hnil, hc⟩
    go_wp2_with (first
      | (at_make; refine wpList_make_own _ rfl _ _ 22 rfl w2.heap.size 5 i0 (.int .u8 0) 1 Try.underlying22 hi hz0 hz1 _ _ _ (9 + n) rfl rfl (by omega) (by rw [hz2]; omega) (by omega) (Nat.le_refl _) ?_; intro w3 own3 g3)
      | (at_builtin; refine wpList_append_fits _ rfl (.tmp 82) (.tmp 88) 22 rfl w2.heap.size 5 i0 1 Try.underlying22 hi hz1 w2.heap.size 0 (9 + n) _ rfl (own3.alloc _) ⟨w3.heap.size, 0, none⟩ 1 1 [.int .u8 (bits .or .u8 (major * 32) _)] rfl rfl one_cell (by intro u hu; simp at hu; subst hu; rfl) (by omega) ?_; intro w4 own4 g4))
    rw [List.nil_append, HZ1.out] at own4
    have s4 : w2.Since w2.heap.size w4 := since_grown ((since_grown0 (World.Since.refl _ _) g3).alloc g3.size _) g4 (Nat.le_refl _)
    clear own3 g3 g4
    go_loopg [10, 11] 1 (fun g s10 s11 wr => ∃ i k : Nat, i + k = 1 ∧ g = i ∧ s11 = .int .i64 ((i : Int) - 1) ∧ s10 = .slice (some ⟨w2.heap.size, 0, none⟩) (1 + k) (9 + n) ∧ wr.ownsRow w2.heap.size 5 1 (.slice (some ⟨w2.heap.size, 0, none⟩) (1 + k) (9 + n)) (1 + k) (bl Z (1 + k)) ∧ w2.Since w2.heap.size wr)
    case atStart => exact ⟨1, 0, rfl, rfl, rfl, rfl, own4, s4⟩
    case round =>
      obtain ⟨i, k, hik, hg, rfl, rfl, own, s5⟩ := hrel
      cases i with
      | zero =>
        have e : ((0 : Nat) : Int) - 1 = -1 := rfl
        rw [e]
        have Hk : Aside (k = 1) := by show k = 1; omega
        have hk8 : k ≤ 8 := by omega
        clear hik hg
        have hX := (h2.later s5 (Nat.le_refl _)).cell
        have hcell : ∀ ad, a' = some ad → ∀ j u, (bl X n)[j]? = some u → wr.cell? (ad.add j) = some u := fun ad e j u hu => by
          obtain ⟨hj, rfl⟩ := bl_lt hu
          have := h2.addr (by omega)
          rw [e] at this
          obtain rfl := Option.some.inj this
          rw [Addr.add_lit]
          exact hX j hj
        go_wp2_with (at_builtin; refine wpList_append_fits_any _ rfl (.tmp 105) (.tmp 106) 22 rfl w2.heap.size 5 i0 1 Try.underlying22 hi hz1 w2.heap.size (1 + k) (9 + n) _ rfl own _ _ _ (bl X n) rfl (by rw [bl_length]; omega) hnil hcell (bl_oneCell _ _) (by omega) ?_; intro w7 own7 g7)
        have HZt' : Aside (∀ i, i < n → Z (1 + k + i) = X i) := by rw [Hk.out]; exact HZt
        rw [bl_append HZt'.out] at own7
        have s7 : w2.Since w2.heap.size w7 := since_grown s5 g7 (Nat.le_refl _)
        have hB := BytesAt.ofOwn own7 (by rw [Hk.out]; exact HZb.out)
        have hx := hB.cell 0 (by omega)
        rw [Nat.add_zero] at hx
        obtain ⟨x0, x1⟩ := hB.bd 0 (by omega)
        refine (head12_any hB (by omega) (by rw [HZs.out]; have := Hk.out; omega) (by omega)).mono ?_
        rintro e w8 ⟨rfl, rfl⟩
        rw [HZm.out, HZa.out, HZi.out]
        go_wp2_with fail
        refine (size9 _ x0 x1 _ 0 _ _ (by omega) _ hx).mono ?_
        rintro e w9 ⟨rfl, rfl⟩
        rw [HZi.out]
        by_cases hm2 : major = 2
        · subst hm2
          go_wp2_with fail
          refine (bytes14_yes _ x0 x1 _ 0 _ _ (by omega) (by omega) _ hx HZm.out (by rw [HZs.out]; have := Hk.out; omega)).mono ?_
          rintro e w10 ⟨⟨a2, ha2, rfl⟩, rfl⟩
          have e1 : 1 + k + n - hsz (Z 0) = n := by rw [HZs.out]; have := Hk.out; omega
          have hC := content_at own7 (by rw [HZs.out, Hk.out]) ha2 HZt'.out h2.bd
          rw [e1]
          go_wp2_with fail
          refine (same15 hC (h2.later s7 (Nat.le_refl _)) (fun _ _ => rfl) hn).mono ?_
          rintro e w11 ⟨rfl, s11⟩
          go_wp2
          go_ret
          exact ⟨rfl, since_chain (since_chain s2 s7) s11⟩
        · have hm2b : (major == 2) = false := by simpa using hm2
          have hnl := fun w a n c => Lib.run_eql_slice_nil (P := Try.prog) w 22 5 a n c 0 0 Try.underlying22
          go_wp2_with fail
          refine (bytes14_no _ x0 x1 _ 0 _ _ (by omega) _ hx (by rw [HZm.out]; exact hm2)).mono ?_
          rintro e w10 ⟨rfl, rfl⟩
          go_wp2
          go_ret
          exact ⟨rfl, since_chain s2 s7⟩
      | succ j =>
        have e : ((j + 1 : Nat) : Int) - 1 = (j : Int) := by omega
        rw [e]
        go_wp2_with (at_builtin; refine wpList_append_fits _ rfl (.tmp 96) (.tmp 103) 22 rfl w2.heap.size 5 i0 1 Try.underlying22 hi hz1 w2.heap.size (1 + k) (9 + n) _ rfl (own.alloc _) ⟨wr.heap.size, 0, none⟩ 1 1 [.int .u8 _] rfl rfl one_cell (by intro u hu; simp at hu; subst hu; rfl) (by omega) ?_; intro w6 own6 g6)
        rw [HZk.out j k hik, ← bl_succ] at own6
        go_roundg j
        case measure => go_light; omega
        case rel =>
          go_light
          exact ⟨j, k + 1, by omega, rfl, rfl, rfl, own6, since_grown (s5.alloc s5.size _) g6 (Nat.le_refl _)⟩
  · have ht : ¬ 65535 < arg := by have := Ha.out; simp only [bdK] at this; omega
    go_enter Try.func5, Try.ntmps5
    go_wp2_with fail
    refine (bytes13 _ _ _ _ _ _ (by omega) _).mono ?_
    rintro e w1 ⟨⟨b1, rfl, -⟩, rfl⟩
    cases b1
    · go_wp2
      go_ret
      exact ⟨rfl, World.Since.refl _ _⟩
    go_wp2_with fail
    refine (clone8b h hn).mono ?_
    rintro e w2 ⟨a', b', c', rfl, s2, h2, hnil, hc⟩
    go_wp2_with (first
      | (at_make; refine wpList_make_own _ rfl _ _ 22 rfl w2.heap.size 5 i0 (.int .u8 0) 1 Try.underlying22 hi hz0 hz1 _ _ _ (9 + n) rfl rfl (by omega) (by rw [hz2]; omega) (by omega) (Nat.le_refl _) ?_; intro w3 own3 g3)
      | (at_builtin; refine wpList_append_fits _ rfl (.tmp 82) (.tmp 88) 22 rfl w2.heap.size 5 i0 1 Try.underlying22 hi hz1 w2.heap.size 0 (9 + n) _ rfl (own3.alloc _) ⟨w3.heap.size, 0, none⟩ 1 1 [.int .u8 (bits .or .u8 (major * 32) _)] rfl rfl one_cell (by intro u hu; simp at hu; subst hu; rfl) (by omega) ?_; intro w4 own4 g4))
    rw [List.nil_append, HZ1.out] at own4
    have s4 : w2.Since w2.heap.size w4 := since_grown ((since_grown0 (World.Since.refl _ _) g3).alloc g3.size _) g4 (Nat.le_refl _)
    clear own3 g3 g4
    go_loopg [10, 11] 2 (fun g s10 s11 wr => ∃ i k : Nat, i + k = 2 ∧ g = i ∧ s11 = .int .i64 ((i : Int) - 1) ∧ s10 = .slice (some ⟨w2.heap.size, 0, none⟩) (1 + k) (9 + n) ∧ wr.ownsRow w2.heap.size 5 1 (.slice (some ⟨w2.heap.size, 0, none⟩) (1 + k) (9 + n)) (1 + k) (bl Z (1 + k)) ∧ w2.Since w2.heap.size wr)
    case atStart => exact ⟨2, 0, rfl, rfl, rfl, rfl, own4, s4⟩
    case round =>
      obtain ⟨i, k, hik, hg, rfl, rfl, own, s5⟩ := hrel
      cases i with
      | zero =>
        have e : ((0 : Nat) : Int) - 1 = -1 := rfl
        rw [e]
        have Hk : Aside (k = 2) := by show k = 2; omega
        have hk8 : k ≤ 8 := by omega
        clear hik hg
        have hX := (h2.later s5 (Nat.le_refl _)).cell
        have hcell : ∀ ad, a' = some ad → ∀ j u, (bl X n)[j]? = some u → wr.cell? (ad.add j) = some u := fun ad e j u hu => by
          obtain ⟨hj, rfl⟩ := bl_lt hu
          have := h2.addr (by omega)
          rw [e] at this
          obtain rfl := Option.some.inj this
          rw [Addr.add_lit]
          exact hX j hj
        go_wp2_with (at_builtin; refine wpList_append_fits_any _ rfl (.tmp 105) (.tmp 106) 22 rfl w2.heap.size 5 i0 1 Try.underlying22 hi hz1 w2.heap.size (1 + k) (9 + n) _ rfl own _ _ _ (bl X n) rfl (by rw [bl_length]; omega) hnil hcell (bl_oneCell _ _) (by omega) ?_; intro w7 own7 g7)
        have HZt' : Aside (∀ i, i < n → Z (1 + k + i) = X i) := by rw [Hk.out]; exact HZt
        rw [bl_append HZt'.out] at own7
        have s7 : w2.Since w2.heap.size w7 := since_grown s5 g7 (Nat.le_refl _)
        have hB := BytesAt.ofOwn own7 (by rw [Hk.out]; exact HZb.out)
        have hx := hB.cell 0 (by omega)
        rw [Nat.add_zero] at hx
        obtain ⟨x0, x1⟩ := hB.bd 0 (by omega)
        refine (head12_any hB (by omega) (by rw [HZs.out]; have := Hk.out; omega) (by omega)).mono ?_
        rintro e w8 ⟨rfl, rfl⟩
        rw [HZm.out, HZa.out, HZi.out]
        go_wp2_with fail
        refine (size9 _ x0 x1 _ 0 _ _ (by omega) _ hx).mono ?_
        rintro e w9 ⟨rfl, rfl⟩
        rw [HZi.out]
        by_cases hm2 : major = 2
        · subst hm2
          go_wp2_with fail
          refine (bytes14_yes _ x0 x1 _ 0 _ _ (by omega) (by omega) _ hx HZm.out (by rw [HZs.out]; have := Hk.out; omega)).mono ?_
          rintro e w10 ⟨⟨a2, ha2, rfl⟩, rfl⟩
          have e1 : 1 + k + n - hsz (Z 0) = n := by rw [HZs.out]; have := Hk.out; omega
          have hC := content_at own7 (by rw [HZs.out, Hk.out]) ha2 HZt'.out h2.bd
          rw [e1]
          go_wp2_with fail
          refine (same15 hC (h2.later s7 (Nat.le_refl _)) (fun _ _ => rfl) hn).mono ?_
          rintro e w11 ⟨rfl, s11⟩
          go_wp2
          go_ret
          exact ⟨rfl, since_chain (since_chain s2 s7) s11⟩
        · have hm2b : (major == 2) = false := by simpa using hm2
          have hnl := fun w a n c => Lib.run_eql_slice_nil (P := Try.prog) w 22 5 a n c 0 0 Try.underlying22
          go_wp2_with fail
          refine (bytes14_no _ x0 x1 _ 0 _ _ (by omega) _ hx (by rw [HZm.out]; exact hm2)).mono ?_
          rintro e w10 ⟨rfl, rfl⟩
          go_wp2
          go_ret
          exact ⟨rfl, since_chain s2 s7⟩
      | succ j =>
        have e : ((j + 1 : Nat) : Int) - 1 = (j : Int) := by omega
        rw [e]
        go_wp2_with (at_builtin; refine wpList_append_fits _ rfl (.tmp 96) (.tmp 103) 22 rfl w2.heap.size 5 i0 1 Try.underlying22 hi hz1 w2.heap.size (1 + k) (9 + n) _ rfl (own.alloc _) ⟨wr.heap.size, 0, none⟩ 1 1 [.int .u8 _] rfl rfl one_cell (by intro u hu; simp at hu; subst hu; rfl) (by omega) ?_; intro w6 own6 g6)
        rw [HZk.out j k hik, ← bl_succ] at own6
        go_roundg j
        case measure => go_light; omega
        case rel =>
          go_light
          exact ⟨j, k + 1, by omega, rfl, rfl, rfl, own6, since_grown (s5.alloc s5.size _) g6 (Nat.le_refl _)⟩
  · have ht : ¬ 4294967295 < arg := by have := Ha.out; simp only [bdK] at this; omega
    go_enter Try.func5, Try.ntmps5
    go_wp2_with fail
    refine (bytes13 _ _ _ _ _ _ (by omega) _).mono ?_
    rintro e w1 ⟨⟨b1, rfl, -⟩, rfl⟩
    cases b1
    · go_wp2
      go_ret
      exact ⟨rfl, World.Since.refl _ _⟩
    go_wp2_with fail
    refine (clone8b h hn).mono ?_
    rintro e w2 ⟨a', b', c', rfl, s2, h2, hnil, hc⟩
    go_wp2_with (first
      | (at_make; refine wpList_make_own _ rfl _ _ 22 rfl w2.heap.size 5 i0 (.int .u8 0) 1 Try.underlying22 hi hz0 hz1 _ _ _ (9 + n) rfl rfl (by omega) (by rw [hz2]; omega) (by omega) (Nat.le_refl _) ?_; intro w3 own3 g3)
      | (at_builtin; refine wpList_append_fits _ rfl (.tmp 82) (.tmp 88) 22 rfl w2.heap.size 5 i0 1 Try.underlying22 hi hz1 w2.heap.size 0 (9 + n) _ rfl (own3.alloc _) ⟨w3.heap.size, 0, none⟩ 1 1 [.int .u8 (bits .or .u8 (major * 32) _)] rfl rfl one_cell (by intro u hu; simp at hu; subst hu; rfl) (by omega) ?_; intro w4 own4 g4))
    rw [List.nil_append, HZ1.out] at own4
    have s4 : w2.Since w2.heap.size w4 := since_grown ((since_grown0 (World.Since.refl _ _) g3).alloc g3.size _) g4 (Nat.le_refl _)
    clear own3 g3 g4
    go_loopg [10, 11] 4 (fun g s10 s11 wr => ∃ i k : Nat, i + k = 4 ∧ g = i ∧ s11 = .int .i64 ((i : Int) - 1) ∧ s10 = .slice (some ⟨w2.heap.size, 0, none⟩) (1 + k) (9 + n) ∧ wr.ownsRow w2.heap.size 5 1 (.slice (some ⟨w2.heap.size, 0, none⟩) (1 + k) (9 + n)) (1 + k) (bl Z (1 + k)) ∧ w2.Since w2.heap.size wr)
    case atStart => exact ⟨4, 0, rfl, rfl, rfl, rfl, own4, s4⟩
    case round =>
      obtain ⟨i, k, hik, hg, rfl, rfl, own, s5⟩ := hrel
      cases i with
      | zero =>
        have e : ((0 : Nat) : Int) - 1 = -1 := rfl
        rw [e]
        have Hk : Aside (k = 4) := by show k = 4; omega
        have hk8 : k ≤ 8 := by omega
        clear hik hg
        have hX := (h2.later s5 (Nat.le_refl _)).cell
        have hcell : ∀ ad, a' = some ad → ∀ j u, (bl X n)[j]? = some u → wr.cell? (ad.add j) = some u := fun ad e j u hu => by
          obtain ⟨hj, rfl⟩ := bl_lt hu
          have := h2.addr (by omega)
          rw [e] at this
          obtain rfl := Option.some.inj this
          rw [Addr.add_lit]
          exact hX j hj
        go_wp2_with (at_builtin; refine wpList_append_fits_any _ rfl (.tmp 105) (.tmp 106) 22 rfl w2.heap.size 5 i0 1 Try.underlying22 hi hz1 w2.heap.size (1 + k) (9 + n) _ rfl own _ _ _ (bl X n) rfl (by rw [bl_length]; omega) hnil hcell (bl_oneCell _ _) (by omega) ?_; intro w7 own7 g7)
        have HZt' : Aside (∀ i, i < n → Z (1 + k + i) = X i) := by rw [Hk.out]; exact HZt
        rw [bl_append HZt'.out] at own7
        have s7 : w2.Since w2.heap.size w7 := since_grown s5 g7 (Nat.le_refl _)
        have hB := BytesAt.ofOwn own7 (by rw [Hk.out]; exact HZb.out)
        have hx := hB.cell 0 (by omega)
        rw [Nat.add_zero] at hx
        obtain ⟨x0, x1⟩ := hB.bd 0 (by omega)
        refine (head12_any hB (by omega) (by rw [HZs.out]; have := Hk.out; omega) (by omega)).mono ?_
        rintro e w8 ⟨rfl, rfl⟩
        rw [HZm.out, HZa.out, HZi.out]
        go_wp2_with fail
        refine (size9 _ x0 x1 _ 0 _ _ (by omega) _ hx).mono ?_
        rintro e w9 ⟨rfl, rfl⟩
        rw [HZi.out]
        by_cases hm2 : major = 2
        · subst hm2
          go_wp2_with fail
          refine (bytes14_yes _ x0 x1 _ 0 _ _ (by omega) (by omega) _ hx HZm.out (by rw [HZs.out]; have := Hk.out; omega)).mono ?_
          rintro e w10 ⟨⟨a2, ha2, rfl⟩, rfl⟩
          have e1 : 1 + k + n - hsz (Z 0) = n := by rw [HZs.out]; have := Hk.out; omega
          have hC := content_at own7 (by rw [HZs.out, Hk.out]) ha2 HZt'.out h2.bd
          rw [e1]
          go_wp2_with fail
          refine (same15 hC (h2.later s7 (Nat.le_refl _)) (fun _ _ => rfl) hn).mono ?_
          rintro e w11 ⟨rfl, s11⟩
          go_wp2
          go_ret
          exact ⟨rfl, since_chain (since_chain s2 s7) s11⟩
        · have hm2b : (major == 2) = false := by simpa using hm2
          have hnl := fun w a n c => Lib.run_eql_slice_nil (P := Try.prog) w 22 5 a n c 0 0 Try.underlying22
          go_wp2_with fail
          refine (bytes14_no _ x0 x1 _ 0 _ _ (by omega) _ hx (by rw [HZm.out]; exact hm2)).mono ?_
          rintro e w10 ⟨rfl, rfl⟩
          go_wp2
          go_ret
          exact ⟨rfl, since_chain s2 s7⟩
      | succ j =>
        have e : ((j + 1 : Nat) : Int) - 1 = (j : Int) := by omega
        rw [e]
        go_wp2_with (at_builtin; refine wpList_append_fits _ rfl (.tmp 96) (.tmp 103) 22 rfl w2.heap.size 5 i0 1 Try.underlying22 hi hz1 w2.heap.size (1 + k) (9 + n) _ rfl (own.alloc _) ⟨wr.heap.size, 0, none⟩ 1 1 [.int .u8 _] rfl rfl one_cell (by intro u hu; simp at hu; subst hu; rfl) (by omega) ?_; intro w6 own6 g6)
        rw [HZk.out j k hik, ← bl_succ] at own6
        go_roundg j
        case measure => go_light; omega
        case rel =>
          go_light
          exact ⟨j, k + 1, by omega, rfl, rfl, rfl, own6, since_grown (s5.alloc s5.size _) g6 (Nat.le_refl _)⟩
  · clear Ha
    go_enter Try.func5, Try.ntmps5
    go_wp2_with fail
    refine (bytes13 _ _ _ _ _ _ (by omega) _).mono ?_
    rintro e w1 ⟨⟨b1, rfl, -⟩, rfl⟩
    cases b1
    · go_wp2
      go_ret
      exact ⟨rfl, World.Since.refl _ _⟩
    go_wp2_with fail
    refine (clone8b h hn).mono ?_
    rintro e w2 ⟨a', b', c', rfl, s2, h2, hnil, hc⟩
    go_wp2_with (first
      | (at_make; refine wpList_make_own _ rfl _ _ 22 rfl w2.heap.size 5 i0 (.int .u8 0) 1 Try.underlying22 hi hz0 hz1 _ _ _ (9 + n) rfl rfl (by omega) (by rw [hz2]; omega) (by omega) (Nat.le_refl _) ?_; intro w3 own3 g3)
      | (at_builtin; refine wpList_append_fits _ rfl (.tmp 82) (.tmp 88) 22 rfl w2.heap.size 5 i0 1 Try.underlying22 hi hz1 w2.heap.size 0 (9 + n) _ rfl (own3.alloc _) ⟨w3.heap.size, 0, none⟩ 1 1 [.int .u8 (bits .or .u8 (major * 32) _)] rfl rfl one_cell (by intro u hu; simp at hu; subst hu; rfl) (by omega) ?_; intro w4 own4 g4))
    rw [List.nil_append, HZ1.out] at own4
    have s4 : w2.Since w2.heap.size w4 := since_grown ((since_grown0 (World.Since.refl _ _) g3).alloc g3.size _) g4 (Nat.le_refl _)
    clear own3 g3 g4
    go_loopg [10, 11] 8 (fun g s10 s11 wr => ∃ i k : Nat, i + k = 8 ∧ g = i ∧ s11 = .int .i64 ((i : Int) - 1) ∧ s10 = .slice (some ⟨w2.heap.size, 0, none⟩) (1 + k) (9 + n) ∧ wr.ownsRow w2.heap.size 5 1 (.slice (some ⟨w2.heap.size, 0, none⟩) (1 + k) (9 + n)) (1 + k) (bl Z (1 + k)) ∧ w2.Since w2.heap.size wr)
    case atStart => exact ⟨8, 0, rfl, rfl, rfl, rfl, own4, s4⟩
    case round =>
      obtain ⟨i, k, hik, hg, rfl, rfl, own, s5⟩ := hrel
      cases i with
      | zero =>
        have e : ((0 : Nat) : Int) - 1 = -1 := rfl
        rw [e]
        have Hk : Aside (k = 8) := by show k = 8; omega
        have hk8 : k ≤ 8 := by omega
        clear hik hg
        have hX := (h2.later s5 (Nat.le_refl _)).cell
        have hcell : ∀ ad, a' = some ad → ∀ j u, (bl X n)[j]? = some u → wr.cell? (ad.add j) = some u := fun ad e j u hu => by
          obtain ⟨hj, rfl⟩ := bl_lt hu
          have := h2.addr (by omega)
          rw [e] at this
          obtain rfl := Option.some.inj this
          rw [Addr.add_lit]
          exact hX j hj
        go_wp2_with (at_builtin; refine wpList_append_fits_any _ rfl (.tmp 105) (.tmp 106) 22 rfl w2.heap.size 5 i0 1 Try.underlying22 hi hz1 w2.heap.size (1 + k) (9 + n) _ rfl own _ _ _ (bl X n) rfl (by rw [bl_length]; omega) hnil hcell (bl_oneCell _ _) (by omega) ?_; intro w7 own7 g7)
        have HZt' : Aside (∀ i, i < n → Z (1 + k + i) = X i) := by rw [Hk.out]; exact HZt
        rw [bl_append HZt'.out] at own7
        have s7 : w2.Since w2.heap.size w7 := since_grown s5 g7 (Nat.le_refl _)
        have hB := BytesAt.ofOwn own7 (by rw [Hk.out]; exact HZb.out)
        have hx := hB.cell 0 (by omega)
        rw [Nat.add_zero] at hx
        obtain ⟨x0, x1⟩ := hB.bd 0 (by omega)
        refine (head12_any hB (by omega) (by rw [HZs.out]; have := Hk.out; omega) (by omega)).mono ?_
        rintro e w8 ⟨rfl, rfl⟩
        rw [HZm.out, HZa.out, HZi.out]
        go_wp2_with fail
        refine (size9 _ x0 x1 _ 0 _ _ (by omega) _ hx).mono ?_
        rintro e w9 ⟨rfl, rfl⟩
        rw [HZi.out]
        by_cases hm2 : major = 2
        · subst hm2
          go_wp2_with fail
          refine (bytes14_yes _ x0 x1 _ 0 _ _ (by omega) (by omega) _ hx HZm.out (by rw [HZs.out]; have := Hk.out; omega)).mono ?_
          rintro e w10 ⟨⟨a2, ha2, rfl⟩, rfl⟩
          have e1 : 1 + k + n - hsz (Z 0) = n := by rw [HZs.out]; have := Hk.out; omega
          have hC := content_at own7 (by rw [HZs.out, Hk.out]) ha2 HZt'.out h2.bd
          rw [e1]
          go_wp2_with fail
          refine (same15 hC (h2.later s7 (Nat.le_refl _)) (fun _ _ => rfl) hn).mono ?_
          rintro e w11 ⟨rfl, s11⟩
          go_wp2
          go_ret
          exact ⟨rfl, since_chain (since_chain s2 s7) s11⟩
        · have hm2b : (major == 2) = false := by simpa using hm2
          have hnl := fun w a n c => Lib.run_eql_slice_nil (P := Try.prog) w 22 5 a n c 0 0 Try.underlying22
          go_wp2_with fail
          refine (bytes14_no _ x0 x1 _ 0 _ _ (by omega) _ hx (by rw [HZm.out]; exact hm2)).mono ?_
          rintro e w10 ⟨rfl, rfl⟩
          go_wp2
          go_ret
          exact ⟨rfl, since_chain s2 s7⟩
      | succ j =>
        have e : ((j + 1 : Nat) : Int) - 1 = (j : Int) := by omega
        rw [e]
        go_wp2_with (at_builtin; refine wpList_append_fits _ rfl (.tmp 96) (.tmp 103) 22 rfl w2.heap.size 5 i0 1 Try.underlying22 hi hz1 w2.heap.size (1 + k) (9 + n) _ rfl (own.alloc _) ⟨wr.heap.size, 0, none⟩ 1 1 [.int .u8 _] rfl rfl one_cell (by intro u hu; simp at hu; subst hu; rfl) (by omega) ?_; intro w6 own6 g6)
        rw [HZk.out j k hik, ← bl_succ] at own6
        go_roundg j
        case measure => go_light; omega
        case rel =>
          go_light
          exact ⟨j, k + 1, by omega, rfl, rfl, rfl, own6, since_grown (s5.alloc s5.size _) g6 (Nat.le_refl _)⟩
end Go.Proofs.Qxb6601482a
