/-
  BYTES THAT THE LAW APPENDS; the clone with its empty case told; what a head that was written reads as.
-/
import Derived.Test.Qxb6601482aCont
import Derived.OwnWalk
namespace Go.Proofs.Qxb6601482a
open Go.RowKit

/-- The first n bytes, as values. -/
def bl (Z : Nat → Int) (n : Nat) : List Value := (List.range n).map fun i => .int .u8 (Z i)
theorem bl_length (Z : Nat → Int) (n : Nat) : (bl Z n).length = n := by simp [bl]
theorem bl_get {Z : Nat → Int} {n i : Nat} (h : i < n) : (bl Z n)[i]? = some (.int .u8 (Z i)) := by simp [bl, h]
theorem bl_lt {Z : Nat → Int} {n i : Nat} {u : Value} (h : (bl Z n)[i]? = some u) : i < n ∧ u = .int .u8 (Z i) := by
  have hl : i < n := by have := (List.getElem?_eq_some_iff.1 h).1; rwa [bl_length] at this
  rw [bl_get hl] at h
  exact ⟨hl, (Option.some.inj h).symm⟩
theorem bl_succ (Z : Nat → Int) (n : Nat) : bl Z (n + 1) = bl Z n ++ [.int .u8 (Z n)] := by simp [bl, List.range_succ]
theorem bl_append {Z T : Nat → Int} {m n : Nat} (h : ∀ i, i < n → Z (m + i) = T i) : bl Z m ++ bl T n = bl Z (m + n) := by
  induction n with
  | zero => simp [bl]
  | succ n ih => rw [← Nat.add_assoc, bl_succ, bl_succ, ← ih (fun i hi => h i (by omega)), h n (by omega), List.append_assoc]
theorem bl_congr {Z T : Nat → Int} {n : Nat} (h : ∀ i, i < n → Z i = T i) : bl Z n = bl T n := by
  simp only [bl]
  exact List.map_congr_left fun i hi => by rw [h i (List.mem_range.1 hi)]
theorem bl_oneCell (Z : Nat → Int) (n : Nat) : ∀ u ∈ bl Z n, u.oneCell' = true := by
  intro u hu
  simp only [bl, List.mem_map] at hu
  obtain ⟨i, -, rfl⟩ := hu
  rfl
theorem BytesAt.ofOwn {w : World} {base g n cap : Nat} {Z : Nat → Int} (h : w.ownsRow base 5 1 (.slice (some ⟨g, 0, none⟩) n cap) n (bl Z n)) (hb : ∀ i, i < n → 0 ≤ Z i ∧ Z i ≤ 255) : BytesAt w (some ⟨g, 0, none⟩) n Z g 0 :=
  ⟨fun _ => rfl, fun i hi => by rw [Nat.zero_add, h.cellAt i (by omega), bl_get hi], hb⟩
theorem since_grown {w a b : World} {r : Nat} (h : w.Since w.heap.size a) (g : a.grownBy b (some r)) (hr : w.heap.size ≤ r) : w.Since w.heap.size b :=
  ⟨g.os.trans h.os, g.tape.trans h.tape, g.output.trans h.output, Nat.le_trans h.size g.size, fun k hk => (g.block k (Nat.lt_of_lt_of_le hk h.size) (fun e => by have := Option.some.inj e; omega)).trans (h.block k hk)⟩
theorem since_grown0 {w a b : World} (h : w.Since w.heap.size a) (g : a.grownBy b none) : w.Since w.heap.size b :=
  ⟨g.os.trans h.os, g.tape.trans h.tape, g.output.trans h.output, Nat.le_trans h.size g.size, fun k hk => (g.block k (Nat.lt_of_lt_of_le hk h.size) (fun e => by cases e)).trans (h.block k hk)⟩

/-- WHAT cloneBytes LEAVES, the capacity of a nil answer told too. -/
def ClonedB (w w' : World) (e : Ending) (n : Nat) (X : Nat → Int) : Prop :=
  ∃ a' b' c', e = .returned (.slice a' n c') ∧ w.Since w.heap.size w' ∧ BytesAt w' a' n X b' 0 ∧ (a' = none → n = 0 ∧ c' = 0) ∧ n ≤ c'

set_option maxHeartbeats 400000 in
theorem clone8b_nil (w : World) (c : Nat) (X : Nat → Int) : Calls Try.prog 8 #[.slice none 0 c] w fun e w' => ClonedB w w' e 0 X := by
  have h2 := fun w a n c => Lib.run_eql_slice_nil (P := Try.prog) w 22 5 a n c 0 0 Try.underlying22
  go_enter Try.func8, Try.ntmps8
  go_wp2
  go_ret
  exact ⟨none, w.heap.size, 0, rfl, World.Since.refl _ _, ⟨fun h => absurd h (Nat.lt_irrefl _), fun i h => absurd h (Nat.not_lt_zero _), fun i h => absurd h (Nat.not_lt_zero _)⟩, fun _ => ⟨rfl, rfl⟩, Nat.le_refl _⟩

theorem clone8b {w : World} {a : Option Addr} {b o n c : Nat} {X : Nat → Int} (h : BytesAt w a n X b o) (hn : n ≤ 1048576) : Calls Try.prog 8 #[.slice a n c] w fun e w' => ClonedB w w' e n X := by
  cases a with
  | none =>
    by_cases h0 : 0 < n
    · have := h.addr h0
      cases this
    · obtain rfl : n = 0 := by omega
      exact clone8b_nil w c X
  | some a =>
    refine (clone8 h hn).mono ?_
    rintro e w' ⟨a', b', c', he, s, hb, -, -, hs, hc⟩
    exact ⟨a', b', c', he, s, hb, fun e => absurd e (hs (fun e => by cases e)), hc⟩

theorem or_major (x y : Int) (h0 : 0 ≤ x) (h1 : x ≤ 7) (y0 : 0 ≤ y) (y1 : y < 32) : bits .or .u8 (IntKind.u8.wrap (x * 32)) y = x * 32 + y := by
  have e1 : IntKind.u8.wrap (x * 32) = x * 32 := by rw [IntKind.wrap_u8']; omega
  rw [e1, u8_or (x * 32) y (by omega) (by omega) y0 (by omega)]
  obtain ⟨m, rfl⟩ := Int.eq_ofNat_of_zero_le h0
  obtain ⟨q, rfl⟩ := Int.eq_ofNat_of_zero_le y0
  have e2 : ((m : Int) * 32).toNat = 2 ^ 5 * m := by omega
  rw [e2, Int.toNat_natCast, ← Nat.two_pow_add_eq_or_of_lt (by omega : q < 2 ^ 5) m]
  omega

/-- THE BYTES THAT ARE WRITTEN: the first byte; nb bytes of the argument, the greatest first; the tail. -/
def enc (f : Int) (nb : Nat) (arg : Int) (T : Nat → Int) (i : Nat) : Int := if i = 0 then f else if i ≤ nb then arg / bdK (nb - i) % 256 else T (i - (1 + nb))
theorem enc_zero (f : Int) (nb : Nat) (arg : Int) (T : Nat → Int) : enc f nb arg T 0 = f := rfl
theorem enc_arg (f : Int) (nb : Nat) (arg : Int) (T : Nat → Int) {k j : Nat} (h : j + 1 + k = nb) : enc f nb arg T (1 + k) = arg / bdK j % 256 := by
  simp only [enc]
  rw [if_neg (by omega), if_pos (by omega), show nb - (1 + k) = j by omega]
theorem enc_tail (f : Int) (nb : Nat) (arg : Int) (T : Nat → Int) (i : Nat) : enc f nb arg T (1 + nb + i) = T i := by
  simp only [enc]
  rw [if_neg (by omega), if_neg (by omega), Nat.add_sub_cancel_left]
theorem enc_bd {f : Int} {nb : Nat} {arg : Int} {T : Nat → Int} {n : Nat} (hf : 0 ≤ f ∧ f ≤ 255) (hT : ∀ i, i < n → 0 ≤ T i ∧ T i ≤ 255) (i : Nat) (hi : i < 1 + nb + n) : 0 ≤ enc f nb arg T i ∧ enc f nb arg T i ≤ 255 := by
  simp only [enc]
  split
  · exact hf
  · split
    · omega
    · exact hT _ (by omega)
theorem be_enc {f : Int} {nb : Nat} {arg : Int} {T : Nat → Int} (h0 : 0 ≤ arg) (h1 : arg < bdK nb) (k : Nat) (hk : k ≤ nb) : be (enc f nb arg T) k = arg / bdK (nb - k) := by
  induction k with
  | zero => simp only [be]; rw [Nat.sub_zero, Int.ediv_eq_zero_of_lt h0 h1]
  | succ k ih =>
    simp only [be]
    rw [ih (by omega), Nat.add_comm k 1, enc_arg f nb arg T (j := nb - (1 + k)) (by omega)]
    obtain ⟨j, hj⟩ : ∃ j, nb - k = j + 1 := ⟨nb - k - 1, by omega⟩
    rw [hj, show nb - (1 + k) = j by omega]
    simp only [bdK]
    rw [← Int.ediv_ediv_of_nonneg (Int.le_of_lt (bdK_pos j))]
    omega
theorem arg_enc {f : Int} {nb : Nat} {arg : Int} {T : Nat → Int} (h0 : 0 ≤ arg) (h1 : arg < bdK nb) (hnb : 0 < nb) (hs : hsz f = 1 + nb) : argOf (enc f nb arg T) = arg := by
  simp only [argOf, enc_zero, hs]
  rw [if_neg (by omega), Nat.add_sub_cancel_left, be_enc h0 h1 nb (Nat.le_refl _), Nat.sub_self]
  simp [bdK]
theorem arg_enc0 {f : Int} {arg : Int} {T : Nat → Int} (hs : hsz f = 1) (ha : f % 32 = arg) : argOf (enc f 0 arg T) = arg := by
  simp only [argOf, enc_zero, hs, if_true]
  exact ha
end Go.Proofs.Qxb6601482a
