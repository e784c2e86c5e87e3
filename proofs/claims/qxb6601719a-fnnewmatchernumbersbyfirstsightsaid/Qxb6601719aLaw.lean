/-
  FnNewMatcherNumbersByFirstSight (5): the law's walk.
-/
import Derived.Test.Qxb6601719aMatcher
namespace Go.Proofs.Qxb6601719a
open Go.RowKit Go.Maps Go.WideMaps
set_option linter.unusedVariables false

theorem rowIs_later {w w' : World} {b : Nat} {t : TypeId} {n : Nat} {f : Nat → Value} (h : w.rowIs b t n f) {B : Nat} (s : w.Since B w') (hB : w.heap.size ≤ B) : w'.rowIs b t n f :=
  h.of_block (s.block _ (Nat.lt_of_lt_of_le h.lt hB))
theorem since_drewN {B : Nat} {w w' : World} (h : w.Since B w') (n : Nat) : w.Since B (w'.drewN n) := ⟨h.os, h.tape, h.output, h.size, h.block⟩

theorem both_ln (G : Nat) (L : Nat → Nat) (X : Nat → Nat → UInt8) (L' : Nat → Nat) (X' : Nat → Nat → UInt8) (p : Nat) : both G L X L' X' p = ln (fun _ => at3 G L L' p) (fun _ => at3 G X X' p) 0 := by
  simp only [both, at3]
  split <;> simp [ln]

/-- Lines q and p of the two texts, compared. -/
theorem equal13_at {w : World} {ga : Option Addr} {G : Nat} {A : Nat → Option Addr} {L C RB RO : Nat → Nat} {X : Nat → Nat → UInt8} {gb go : Nat}
    (g : LinesAt w ga G A L C RB RO X gb go) (hfit : FitL G L)
    {ga' : Option Addr} {G' : Nat} {A' : Nat → Option Addr} {L' C' RB' RO' : Nat → Nat} {X' : Nat → Nat → UInt8} {gb' go' : Nat}
    (g' : LinesAt w ga' G' A' L' C' RB' RO' X' gb' go') (hfit' : FitL G' L') (q p : Nat) (hq : q < G + G') (hp : p < G + G') :
    Calls Try.prog 13 #[.slice (at3 G A A' q) (at3 G L L' q) (at3 G C C' q), .slice (at3 G A A' p) (at3 G L L' p) (at3 G C C' p)] w fun e w' => Answers (fun r => r = true ↔ both G L X L' X' q = both G L X L' X' p) e ∧ ∃ d, w' = w.drewN d := by
  have hl : ∀ p, p < G + G' → at3 G L L' p ≤ 1048576 := fun p hp => by
    simp only [at3]
    split
    · exact hfit _ (by assumption)
    · exact hfit' _ (by omega)
  have ha : ∀ p, p < G + G' → 0 < at3 G L L' p → at3 G A A' p = some ⟨at3 G RB RB' p, at3 G RO RO' p, none⟩ := fun p hp h0 => by
    simp only [at3] at h0 ⊢
    by_cases h : p < G
    · simp only [if_pos h] at h0 ⊢; exact g.addr p h 0 h0
    · simp only [if_neg h] at h0 ⊢; exact g'.addr _ (by omega) 0 h0
  have hx : ∀ p, p < G + G' → ∀ i, i < at3 G L L' p → w.cell? ⟨at3 G RB RB' p, at3 G RO RO' p + i, none⟩ = some (.int .u8 ((at3 G X X' p i).toNat : Int)) := fun p hp i hi => by
    simp only [at3] at hi ⊢
    by_cases h : p < G
    · simp only [if_pos h] at hi ⊢; exact g.byte p h i hi
    · simp only [if_neg h] at hi ⊢; exact g'.byte _ (by omega) i hi
  refine (equal13 (hl q hq) (hl p hp) (ha q hq) (hx q hq) (ha p hp) (hx p hp)).mono ?_
  rintro e w' ⟨⟨b, rfl, hb⟩, hd⟩
  refine ⟨⟨b, rfl, hb.trans ?_⟩, hd⟩
  rw [both_ln, both_ln]
  constructor
  · rintro ⟨h1, h2⟩
    exact ln_ext h1 h2
  · intro h
    exact ln_eq h

/-- want, p of its cells filled. -/
def wCell (K : Nat → List UInt8) (k j : Nat) : Value := if j < k then .int .i64 (num K j : Int) else .int .i64 0
theorem wCell_step (K : Nat → List UInt8) (k j : Nat) : (if j = k then .int .i64 (num K k : Int) else wCell K k j) = wCell K (k + 1) j := by
  simp only [wCell]
  by_cases e : j = k
  · subst e; simp
  · rw [if_neg e]
    by_cases h : j < k
    · rw [if_pos h, if_pos (by omega)]
    · rw [if_neg h, if_neg (by omega)]
theorem wCell_at (K : Nat → List UInt8) (k : Nat) : wCell K k k = .int .i64 0 := by simp [wCell]
theorem wCell_lt (K : Nat → List UInt8) {k j : Nat} (h : j < k) : wCell K k j = .int .i64 (num K j : Int) := by simp [wCell, h]
theorem num_at3 (K : Nat → List UInt8) (G p : Nat) : at3 G (fun j => (num K j : Int)) (fun j => (num K (G + j) : Int)) p = (num K p : Int) := by
  simp only [at3]
  split
  · rfl
  · rw [show G + (p - G) = p by omega]

/-- What stays while the law's loops run: v is the world in which 'want' was made. -/
structure Held (w v wr : World) (n : Nat) (K : Nat → List UInt8) (p : Nat) : Prop where
  since : w.Since w.heap.size wr
  old : v.Since v.heap.size wr
  want : wr.rowIs v.heap.size 3 n (wCell K p)
  le : w.heap.size ≤ v.heap.size

theorem Held.drewN {w v wr : World} {n : Nat} {K : Nat → List UInt8} {p : Nat} (h : Held w v wr n K p) (d : Nat) : Held w v (wr.drewN d) n K p :=
  ⟨since_drewN h.since d, since_drewN h.old d, h.want, h.le⟩
/-- want[p] is stored. -/
theorem Held.store {w v wr : World} {n : Nat} {K : Nat → List UInt8} {p : Nat} (h : Held w v wr n K p) {x : Int} (hv : x = (num K p : Int)) : Held w v (wr.setCell ⟨v.heap.size, p, none⟩ (.int .i64 x)) n K (p + 1) := by
  subst hv
  exact ⟨h.since.setCell h.le _, h.old.setCell (Nat.le_refl _) _, (h.want.set p _).congr (fun j _ => wCell_step K p j), h.le⟩

set_option maxHeartbeats 1600000 in
set_option maxRecDepth 100000 in
theorem law5 {w : World} {ga : Option Addr} {G Gc : Nat} {A : Nat → Option Addr} {L C RB RO : Nat → Nat} {X : Nat → Nat → UInt8} {gb go : Nat}
    (g : LinesAt w ga G A L C RB RO X gb go)
    {ga' : Option Addr} {G' Gc' : Nat} {A' : Nat → Option Addr} {L' C' RB' RO' : Nat → Nat} {X' : Nat → Nat → UInt8} {gb' go' : Nat}
    (g' : LinesAt w ga' G' A' L' C' RB' RO' X' gb' go') :
    Calls Try.prog 5 #[.slice ga G Gc, .slice ga' G' Gc'] w fun e w' => e = .returned (.bool true) ∧ w.Since w.heap.size w' := by
  have hG0 := g.bdG
  have hG0' := g'.bdG
  go_enter Try.func5, Try.ntmps5
  go_wp2_with fail
  refine (bytes14 g g').mono ?_
  rintro e w1 ⟨⟨b, rfl, -⟩, rfl⟩
  cases b
  · go_wp2
    go_ret
    exact ⟨rfl, World.Since.refl _ _⟩
  by_cases hG1 : (4096 : Int) < (G : Int)
  · go_wp2
    go_ret
    exact ⟨rfl, World.Since.refl _ _⟩
  by_cases hG2 : (4096 : Int) < (G' : Int)
  · go_wp2
    go_ret
    exact ⟨rfl, World.Since.refl _ _⟩
  have hG : G ≤ 4096 := by omega
  have hG' : G' ≤ 4096 := by omega
  go_wp2_with fail
  refine (fit15 g hG g' hG').mono ?_
  rintro e w2 ⟨⟨b, rfl, hfit⟩, rfl⟩
  cases b
  · clear hfit
    go_wp2
    go_ret
    exact ⟨rfl, World.Since.refl _ _⟩
  obtain ⟨hf, hf'⟩ := hfit rfl
  have HF : Aside (FitL G L) := hf
  have HF' : Aside (FitL G' L') := hf'
  clear hfit hf hf' hG1 hG2 hG0 hG0'
  go_wp2_with fail
  refine (lines16 g hG HF.out).mono ?_
  rintro e w3 ⟨ga3, A3, C3, RB3, RO3, gb3, go3, c3, rfl, s3, l3⟩
  have g3 := g'.later s3 (Nat.le_refl _)
  clear g g'
  go_wp2_with fail
  refine (lines16 g3 hG' HF'.out).mono ?_
  rintro e w4 ⟨ga4, A4, C4, RB4, RO4, gb4, go4, c4, rfl, s4, l4⟩
  have l3' := l3.later s4 (Nat.le_refl _)
  have s04 := since_chain s3 s4
  clear l3 g3 s3 s4
  go_wp2_with fail
  refine (new17 l3' hG HF.out l4 hG' HF'.out).mono ?_
  rintro e w5 ⟨pb, ha, hb, rfl, m0, m1, m2, s5, ra, rb⟩
  obtain ⟨K, HK⟩ : ∃ K, Aside (both G L X L' X' = K) := ⟨_, rfl⟩
  rw [HK.out] at ra rb
  have la := l3'.later s5 (Nat.le_refl _)
  have lb := l4.later s5 (Nat.le_refl _)
  have s05 := since_chain s04 s5
  clear l3' l4 s5 s04
  go_wp2_with fail
  refine (a18 m0).mono ?_
  rintro e w6 ⟨rfl, rfl⟩
  go_wp2_with fail
  refine (b19 m1).mono ?_
  rintro e w7 ⟨rfl, rfl⟩
  have t1 := fun w a n c => Lib.run_eql_slice_nil (P := Try.prog) w 32 3 a n c 0 0 Try.underlying32
  have t2 : ((G : Int) != (G : Int)) = false := by simp
  have t3 : ((G' : Int) != (G' : Int)) = false := by simp
  go_wp2_with fail
  refine (p20 m2).mono ?_
  rintro e w8 ⟨rfl, rfl⟩
  have t4 := fun w a n c => run_neq_slice_nil_any (P := Try.prog) w 34 41 a n c 0 0 Try.underlying34
  have hmk := run_make_row' (P := Try.prog) 32 3 (.int .i64 0) 8 Try.underlying32 Try.info3 rfl .i64 .i64 (G + G') (by omega) (by omega)
  simp only [Int.natCast_add] at hmk
  have HH : Held w2 w8 (w8.alloc (.cells (madeCells #[.int .i64 0] (G + G')) 3)) (G + G') K 0 := 
    ⟨s05.alloc s05.size _, (World.Since.refl w8.heap.size w8).alloc (Nat.le_refl _) _, (World.rowIs_made w8 _ _ 3).congr (fun j _ => by simp [wCell]), s05.size⟩
  have HA : Aside (LinesAt w8 ga3 G A3 L C3 RB3 RO3 X gb3 go3 ∧ LinesAt w8 ga4 G' A4 L' C4 RB4 RO4 X' gb4 go4 ∧ w8.rowIs ha 3 G (fun j => .int .i64 (num K j : Int)) ∧ w8.rowIs hb 3 G' (fun j => .int .i64 (num K (G + j) : Int))) := ⟨la, lb, ra, rb⟩
  clear la lb ra rb s05 m0 m1 m2
  go_wp2
  clear hmk t1 t2 t3 t4
  go_loopg [10, 11] (G + G') (fun m dd pp wr => ∃ p : Nat, p ≤ G + G' ∧ m = G + G' - p ∧ dd = .int .i64 (cnt K p : Int) ∧ pp = .int .i64 p ∧ Held w2 w8 wr (G + G') K p)
  case atStart => exact ⟨0, Nat.zero_le _, rfl, rfl, rfl, HH⟩
  case round =>
    obtain ⟨p, hp, rfl, rfl, rfl, hH⟩ := hrel
    clear HH
    by_cases hpn : p < G + G'
    · have hpz : (p : Int) < (G : Int) + (G' : Int) := by omega
      have hcn := cnt_le K p
      go_wp2
      obtain ⟨wo, HO⟩ : ∃ wo, Aside (wr = wo) := ⟨_, rfl⟩
      rw [HO.out] at hH
      go_loopg [12] p (fun m qq wi => ∃ q d : Nat, q ≤ p ∧ m = p - q ∧ qq = .int .i64 q ∧ wi = wo.drewN d ∧ ∀ j, j < q → K j ≠ K p)
      case atStart => exact ⟨0, 0, Nat.zero_le _, rfl, rfl, HO.out, fun j h => absurd h (Nat.not_lt_zero _)⟩
      case round =>
        obtain ⟨q, d, hq, rfl, rfl, rfl, hne⟩ := hrel
        have HNE : Aside (∀ j, j < q → K j ≠ K p) := hne
        have HD : Aside (Held w2 w8 (wo.drewN d) (G + G') K p) := hH.drewN d
        clear hne
        by_cases hqp : q < p
        · have hqz : (q : Int) < (p : Int) := by omega
          have la := HA.out.1.later HD.out.old (Nat.le_refl _)
          have lb := HA.out.2.1.later HD.out.old (Nat.le_refl _)
          go_wp2_with fail
          refine (line21 la hG lb hG' q (by omega)).mono ?_
          rintro e w9 ⟨rfl, rfl⟩
          go_wp2_with fail
          refine (line21 la hG lb hG' p hpn).mono ?_
          rintro e w9 ⟨rfl, rfl⟩
          go_wp2_with fail
          refine (equal13_at la HF.out lb HF'.out q p (by omega) hpn).mono ?_
          rintro e w9 ⟨⟨b, rfl, hb⟩, d1, rfl⟩
          rw [HK.out] at hb
          clear la lb
          cases b
          · have HN : Aside (∀ j, j < q + 1 → K j ≠ K p) := fun j hj => by
              by_cases e : j = q
              · subst e; intro h; have := hb.2 h; cases this
              · exact HNE.out j (by omega)
            clear hb HD hH
            go_wp2
            go_roundg (p - (q + 1))
            case measure => go_light; omega
            case rel => go_light; exact ⟨q + 1, _, by omega, rfl, by simp, rfl, HN.out⟩
          · have heq := hb.1 rfl
            have HFI : Aside (num K p = num K q) := num_old K p q heq
            have hfi : firstIx K p = q := firstIx_uniq K p q heq HNE.out
            have HCN : Aside (cnt K (p + 1) = cnt K p) := by show cnt K p + _ = _; rw [if_neg (by omega)]; rfl
            have t1 : ((q : Int) == (p : Int)) = false := by simp; omega
            have HD1 : Aside (Held w2 w8 ((wo.drewN d).drewN d1) (G + G') K p) := HD.out.drewN d1
            have c1 : wo.cell? ⟨w8.heap.size, q, none⟩ = some (.int .i64 (num K q : Int)) := by rw [hH.want.cell (i := q) (by omega), wCell_lt K hqp]
            have c2 : wo.cell? ⟨w8.heap.size, p, none⟩ = some (.int .i64 0) := by rw [hH.want.cell hpn, wCell_at]
            have f2 := hH.want.frozen p
            have l2 := hH.want.lt
            have HE0 : Aside (Held w2 w8 wo (G + G') K p) := hH
            clear hb heq hfi HD hH
            go_wp2_with fail
            have HE : Aside (Held w2 w8 ((wo.drewN (d + d1)).setCell ⟨w8.heap.size, p, none⟩ (.int .i64 (num K q : Int))) (G + G') K (p + 1)) := (HE0.out.drewN (d + d1)).store (by rw [HFI.out])
            obtain ⟨W, HW⟩ : ∃ W, Aside ((wo.drewN (d + d1)).setCell ⟨w8.heap.size, p, none⟩ (.int .i64 (num K q : Int)) = W) := ⟨_, rfl⟩
            rw [HW.out] at HE ⊢
            have c3 : W.cell? ⟨w8.heap.size, p, none⟩ = some (.int .i64 (num K p : Int)) := by rw [HE.out.want.cell hpn, wCell_lt K (by omega)]
            have ra := rowIs_later HA.out.2.2.1 HE.out.old (Nat.le_refl _)
            have rb := rowIs_later HA.out.2.2.2 HE.out.old (Nat.le_refl _)
            have t2 : ((num K p : Int) != (num K p : Int)) = false := by simp
            have hcall := fun k => int22 (w := W.drewN k) (Gc := G) (Gc' := G') ra hG rb hG' p hpn
            simp only [num_at3] at hcall
            clear c1 c2 f2 l2 ra rb t1
            go_quiet (first | (go_at_call 22; exact Calls.quiet_of_same (hcall _)))
            go_wp2
            go_roundg (G + G' - (p + 1))
            case measure => go_light; omega
            case rel => go_light; exact ⟨p + 1, by omega, rfl, by rw [HCN.out], by simp, HE.out.drewN _⟩
        · have hqz : ¬ (q : Int) < (p : Int) := by omega
          obtain rfl : q = p := by omega
          have hfi : firstIx K q = q := firstIx_uniq K q q rfl HNE.out
          have HFI : Aside (num K q = cnt K q) := num_new K q hfi
          have HCN : Aside (cnt K (q + 1) = cnt K q + 1) := by show cnt K q + _ = _; rw [if_pos hfi]
          have t1 : ((q : Int) == (q : Int)) = true := by simp
          have c2 : wo.cell? ⟨w8.heap.size, q, none⟩ = some (.int .i64 0) := by rw [hH.want.cell hpn, wCell_at]
          have f2 := hH.want.frozen q
          have l2 := hH.want.lt
          have HE0 : Aside (Held w2 w8 wo (G + G') K q) := hH
          clear hfi hH HD
          go_wp2_with fail
          have HE : Aside (Held w2 w8 ((wo.drewN d).setCell ⟨w8.heap.size, q, none⟩ (.int .i64 (cnt K q : Int))) (G + G') K (q + 1)) := (HE0.out.drewN d).store (by rw [HFI.out])
          obtain ⟨W, HW⟩ : ∃ W, Aside ((wo.drewN d).setCell ⟨w8.heap.size, q, none⟩ (.int .i64 (cnt K q : Int)) = W) := ⟨_, rfl⟩
          rw [HW.out] at HE ⊢
          have c3 : W.cell? ⟨w8.heap.size, q, none⟩ = some (.int .i64 (num K q : Int)) := by rw [HE.out.want.cell hpn, wCell_lt K (by omega)]
          have ra := rowIs_later HA.out.2.2.1 HE.out.old (Nat.le_refl _)
          have rb := rowIs_later HA.out.2.2.2 HE.out.old (Nat.le_refl _)
          have t2 : ((num K q : Int) != (num K q : Int)) = false := by simp
          have hcall := fun k => int22 (w := W.drewN k) (Gc := G) (Gc' := G') ra hG rb hG' q hpn
          simp only [num_at3] at hcall
          clear c2 f2 l2 ra rb t1
          go_quiet (first | (go_at_call 22; exact Calls.quiet_of_same (hcall _)))
          go_wp2
          go_roundg (G + G' - (q + 1))
          case measure => go_light; omega
          case rel => go_light; exact ⟨q + 1, by omega, rfl, by rw [HCN.out]; simp, by simp, HE.out.drewN _⟩
    · have hpz : ¬ (p : Int) < (G : Int) + (G' : Int) := by omega
      clear HA
      go_wp2
      go_ret
      exact ⟨rfl, hH.since⟩

end Go.Proofs.Qxb6601719a
