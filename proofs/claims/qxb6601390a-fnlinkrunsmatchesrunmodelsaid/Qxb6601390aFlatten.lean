/-
  zzFlatten_b1 (43): the blocks' arcs, one behind another, in three rows.
-/
import Derived.Test.Qxb6601390aSmall
namespace Go.Proofs.Qxb6601390a
open Go.RowKit Plain

/-- The field of arc number p (0 behind the end). -/
def fldAt (l : List Arc) (fld : Arc → Int) (p : Nat) : Int := ((l[p]?).map fld).getD 0
theorem fldAt_snoc (l : List Arc) (a : Arc) (fld : Arc → Int) (q : Nat) : (if q = l.length then fld a else fldAt l fld q) = fldAt (l ++ [a]) fld q := by
  simp only [fldAt]
  by_cases e : q = l.length
  · subst e; simp
  · rw [if_neg e]
    by_cases h : q < l.length
    · rw [List.getElem?_append_left h]
    · rw [List.getElem?_eq_none (by omega), List.getElem?_eq_none (by simp; omega)]

structure FlatAt (w : World) (m : Nat) (l : List Arc) (tb hb ib : Nat) : Prop where
  tails : w.rowIs tb 21 m (fun p => .int .i32 (fldAt l (·.1) p))
  heads : w.rowIs hb 21 m (fun p => .int .i32 (fldAt l (·.2.1) p))
  items : w.rowIs ib 21 m (fun p => .int .i32 (fldAt l (·.2.2) p))

structure FlatIn (w wr : World) (m : Nat) (l : List Arc) : Prop where
  since : w.Since w.heap.size wr
  at_ : FlatAt wr m l w.heap.size (w.heap.size + 1) (w.heap.size + 1 + 1)

def FlatMade (w w' : World) (e : Ending) (l : List Arc) : Prop :=
  ∃ tb hb ib, e = .returned (.tuple #[.slice (some ⟨tb, 0, none⟩) l.length l.length, .slice (some ⟨hb, 0, none⟩) l.length l.length, .slice (some ⟨ib, 0, none⟩) l.length l.length]) ∧
    w.Since w.heap.size w' ∧ FlatAt w' l.length l tb hb ib ∧ w.heap.size ≤ tb ∧ w.heap.size ≤ hb ∧ w.heap.size ≤ ib

theorem flat_start (w : World) (m : Nat) : FlatIn w (((w.alloc (.cells (madeCells #[.int .i32 0] m) 21)).alloc (.cells (madeCells #[.int .i32 0] m) 21)).alloc (.cells (madeCells #[.int .i32 0] m) 21)) m [] := by
  have s1 := (World.Since.refl w.heap.size w).alloc (Nat.le_refl _) (.cells (madeCells #[.int .i32 0] m) 21)
  have s2 := s1.alloc s1.size (.cells (madeCells #[.int .i32 0] m) 21)
  have s3 := s2.alloc s2.size (.cells (madeCells #[.int .i32 0] m) 21)
  have r1 := World.rowIs_made w (.int .i32 0) m 21
  have r2 := World.rowIs_made (w.alloc (.cells (madeCells #[.int .i32 0] m) 21)) (.int .i32 0) m 21
  have r3 := World.rowIs_made ((w.alloc (.cells (madeCells #[.int .i32 0] m) 21)).alloc (.cells (madeCells #[.int .i32 0] m) 21)) (.int .i32 0) m 21
  have z1 : (w.alloc (.cells (madeCells #[.int .i32 0] m) 21)).heap.size = w.heap.size + 1 := by simp
  have z2 : ((w.alloc (.cells (madeCells #[.int .i32 0] m) 21)).alloc (.cells (madeCells #[.int .i32 0] m) 21)).heap.size = w.heap.size + 1 + 1 := by simp
  rw [z1] at r2
  rw [z2] at r3
  exact ⟨s3, (((r1.alloc _).alloc _).congr (fun i _ => by simp [fldAt])), ((r2.alloc _).congr (fun i _ => by simp [fldAt])), (r3.congr (fun i _ => by simp [fldAt]))⟩

theorem flat_step {w wr : World} {m : Nat} {l : List Arc} (h : FlatIn w wr m l) (a : Arc) (p : Nat) (hp : p = l.length) :
    FlatIn w (((wr.setCell ⟨w.heap.size, p, none⟩ (.int .i32 a.1)).setCell ⟨w.heap.size + 1, p, none⟩ (.int .i32 a.2.1)).setCell ⟨w.heap.size + 1 + 1, p, none⟩ (.int .i32 a.2.2)) m (l ++ [a]) := by
  subst hp
  refine ⟨((h.since.setCell (Nat.le_refl _) _).setCell (by show _ ≤ w.heap.size + 1; omega) _).setCell (by show _ ≤ w.heap.size + 1 + 1; omega) _, ?_, ?_, ?_⟩
  · exact (((h.at_.tails.set _ _).setOther (by show w.heap.size ≠ w.heap.size + 1; omega) _).setOther (by show w.heap.size ≠ w.heap.size + 1 + 1; omega) _).congr (fun q _ => by rw [← fldAt_snoc]; by_cases k : q = l.length <;> simp [k])
  · exact (((h.at_.heads.setOther (by show w.heap.size + 1 ≠ w.heap.size; omega) _).set _ _).setOther (by show w.heap.size + 1 ≠ w.heap.size + 1 + 1; omega) _).congr (fun q _ => by rw [← fldAt_snoc]; by_cases k : q = l.length <;> simp [k])
  · exact (((h.at_.items.setOther (by show w.heap.size + 1 + 1 ≠ w.heap.size; omega) _).setOther (by show w.heap.size + 1 + 1 ≠ w.heap.size + 1; omega) _).set _ _).congr (fun q _ => by rw [← fldAt_snoc]; by_cases k : q = l.length <;> simp [k])

set_option maxHeartbeats 800000 in
theorem flatten43 {w : World} {ga : Option Addr} {G Gc : Nat} {A : Nat → Option Addr} {L C RB RO : Nat → Nat} {T H I : Nat → Nat → Int} {gb go : Nat}
    (g : GridAt w ga G A L C RB RO T H I gb go) (fit : SizeOK G L) :
    Calls Try.prog 43 #[.slice ga G Gc] w fun e w' => FlatMade w w' e (flatTo L T H I G) := by
  obtain ⟨fit1, fit2⟩ := fit
  have HG : Aside (GridAt w ga G A L C RB RO T H I gb go) := g
  clear g
  go_enter Try.func43, Try.ntmps43
  go_wp2
  go_loopg [5, 6] G (fun k z i wr => wr = w ∧ ∃ (r : Nat), r ≤ G ∧ k = G - r ∧ i = .int .i64 r ∧ z = .int .i64 (sumTo L r : Int))
  case atStart => exact ⟨rfl, 0, Nat.zero_le _, rfl, rfl, rfl⟩
  case round =>
    obtain ⟨rfl, r, hr, rfl, rfl, rfl⟩ := hrel
    have sle := sumTo_le L hr
    by_cases hrG : r < G
    · have hrz : (r : Int) < (G : Int) := by omega
      have sl1 := sumTo_one L hrG
      obtain rfl := HG.out.ga (by omega)
      have c0 := HG.out.row r hrG
      go_wp2
      go_roundg (G - (r + 1))
      case measure => go_light; omega
      case rel => go_light; exact ⟨rfl, r + 1, by omega, rfl, by simp, by simp [sumTo]⟩
    · have hrz : ¬ (r : Int) < (G : Int) := by omega
      obtain rfl : G = r := by omega
      obtain ⟨m, Hm⟩ : ∃ m, Aside (sumTo L G = m) := ⟨_, rfl⟩
      have hm : m ≤ 1048576 := by have := Hm.out; omega
      rw [Hm.out]
      clear sle
      have hmk := run_make_row' (P := Try.prog) 28 21 (.int .i32 0) 4 Try.underlying28 Try.info21 rfl .i64 .i64 m (by omega) (by omega)
      obtain ⟨w0, rfl⟩ : ∃ w0 : World, w0 = wr := ⟨_, rfl⟩
      go_wp2
      clear hmk
      go_loopg [10, 11] G (fun k p i wr => ∃ (r : Nat), r ≤ G ∧ k = G - r ∧ i = .int .i64 r ∧ p = .int .i64 (sumTo L r : Int) ∧ FlatIn w0 wr m (flatTo L T H I r))
      case atStart => exact ⟨0, Nat.zero_le _, rfl, rfl, rfl, flat_start w0 m⟩
      case round =>
        obtain ⟨r, hr, rfl, rfl, rfl, hI⟩ := hrel
        by_cases hrG : r < G
        · have hrz : (r : Int) < (G : Int) := by omega
          obtain rfl := HG.out.ga (by omega)
          have sl1 := sumTo_one L hrG
          have g1 := HG.out.later hI.since (Nat.le_refl _)
          have c0 := g1.row r hrG
          obtain ⟨ar, HAr⟩ : ∃ ar, Aside (A r = ar) := ⟨_, rfl⟩
          rw [HAr.out] at c0
          clear g1
          go_wp2
          clear c0
          obtain ⟨wo, rfl⟩ : ∃ wo : World, wo = wr := ⟨_, rfl⟩
          go_loopg [10, 13] (L r) (fun k p i wi => ∃ c : Nat, c ≤ L r ∧ k = L r - c ∧ i = .int .i64 c ∧ p = .int .i64 ((sumTo L r + c : Nat) : Int) ∧ FlatIn w0 wi m (flatTo L T H I r ++ rowTo (T r) (H r) (I r) c))
          case atStart => exact ⟨0, Nat.zero_le _, rfl, rfl, rfl, by simpa [rowTo] using hI⟩
          case round =>
            clear hI
            obtain ⟨c, hc, rfl, rfl, rfl, hI⟩ := hrel
            by_cases hcL : c < L r
            · have hcz : (c : Int) < (L r : Int) := by omega
              obtain rfl : ar = some ⟨RB r, RO r, none⟩ := HAr.out.symm.trans (HG.out.addr r hrG c hcL)
              have g2 := HG.out.later hI.since (Nat.le_refl _)
              have q1 := g2.tail r hrG c hcL
              have q2 := g2.head r hrG c hcL
              have q3 := g2.item r hrG c hcL
              obtain ⟨p, hp⟩ : ∃ p, sumTo L r + c = p := ⟨_, rfl⟩
              rw [hp]
              have hpm : p < m := by have := Hm.out; omega
              have hpz : (p : Int) < (m : Int) := by omega
              have u1 := hI.at_.tails.cell hpm
              have u2 := hI.at_.heads.cell hpm
              have u3 := hI.at_.items.cell hpm
              have v1 := hI.at_.tails.frozen p
              have v2 := hI.at_.heads.frozen p
              have v3 := hI.at_.items.frozen p
              have e1 := World.block_lt_of_cell? _ _ (HG.out.tail r hrG c hcL)
              simp only at e1
              have HST := flat_step hI (T r c, H r c, I r c) p (by rw [List.length_append, length_flatTo, length_rowTo]; exact hp.symm)
              have HP : Aside (sumTo L r + c = p) := hp
              clear g2 hI hp
              go_wp2
              go_roundg (L r - (c + 1))
              case measure => go_light; omega
              case rel =>
                go_light
                refine ⟨c + 1, by omega, rfl, by simp, ?_, ?_⟩
                · have := HP.out
                  have e : ((p : Int) + 1) = ((sumTo L r + (c + 1) : Nat) : Int) := by omega
                  rw [e]
                · rw [rowTo_succ, ← List.append_assoc]; exact HST
            · have hcz : ¬ (c : Int) < (L r : Int) := by omega
              obtain rfl : c = L r := by omega
              go_wp2
              go_roundg (G - (r + 1))
              case measure => go_light; omega
              case rel => go_light; exact ⟨r + 1, by omega, rfl, by simp, rfl, hI⟩
        · have hrz : ¬ (r : Int) < (G : Int) := by omega
          obtain rfl : G = r := by omega
          go_wp2
          go_ret3
          have hl : (flatTo L T H I G).length = m := by rw [length_flatTo]; exact Hm.out
          refine ⟨w0.heap.size, w0.heap.size + 1, w0.heap.size + 1 + 1, by rw [hl]; rfl, hI.since, by rw [hl]; exact hI.at_, by omega, by omega, by omega⟩
end Go.Proofs.Qxb6601390a
