/-
  FnLinkRunsMatchesRunModel (3): the law's walk.
-/
import Derived.Test.Qxb6601390aLAft
import Derived.Test.Qxb6601390aLGuards
namespace Go.Proofs.Qxb6601390a
open Go.RowKit Plain
set_option linter.unusedVariables false

theorem FitL.bounds {d : Vd} {e : Wd} {g : Rd} (h : FitL d e g) : d.n ≤ 1048576 ∧ e.n ≤ 1048576 ∧ g.n ≤ 1048576 ∧ (∀ i, i < d.n → d.rl i ≤ 1048576) ∧ (∀ t, t < e.n → e.l t ≤ 1048576) ∧ (∀ q, q < g.n → g.sl q ≤ 1048576) := by
  unfold FitL at h
  refine ⟨by omega, by omega, by omega, fun i hi => ?_, fun t ht => ?_, fun q hq => ?_⟩
  · have := sumTo_one d.rl hi; omega
  · have := sumTo_one e.l ht; omega
  · have := sumTo_one g.sl hq; omega

theorem sAlloc {w w' : World} {o : Obj} (h : w.Since w.heap.size w') : w.Since w.heap.size (w'.alloc o) := h.alloc h.size o
theorem sDrew {w w' : World} (h : w.Since w.heap.size w') : w.Since w.heap.size w'.drew := h.drew
theorem sDrewN {w w' : World} {n : Nat} (h : w.Since w.heap.size w') : w.Since w.heap.size (w'.drewN n) := since_drewN h n
/-- The readers of version i, as they came in. -/
theorem VersAt.ints {w : World} {d : Vd} {m : Vm} (h : VersAt w d m) {i : Nat} (hi : i < d.n) : IntsAt .i32 w (m.ra i) (d.rl i) (d.r i) (m.rb i) (m.ro i) :=
  ⟨fun hl => h.ra i hi 0 hl, fun k hk => h.rr i hi k hk⟩
theorem RunsAt.ints {w : World} {d : Rd} {m : Rm} (h : RunsAt w d m) {i : Nat} (hi : i < d.n) : IntsAt .i32 w (m.ra i) (d.sl i) (d.s i) (m.rb i) (m.ro i) :=
  ⟨fun hl => h.ra i hi 0 hl, fun k hk => h.rr i hi k hk⟩

theorem run26e {w : World} (x y z : Int) {a b : Option Addr} {n ca cb ab ao bb bo : Nat} {X : Nat → Int} (hn : n ≤ 9223372036854775807) (hA : IntsAt .i32 w a n X ab ao) (hB : IntsAt .i32 w b n X bb bo) :
    Calls Try.prog 26 #[.agg #[.int .i32 x, .int .i32 y, .int .i32 z, .slice a n ca], .int .i32 x, .int .i32 y, .int .i32 z, .slice b n cb] w fun e w' => e = .returned (.bool true) ∧ ∃ q, w' = (((((w.alloc (.cells #[.int .i32 x, .int .i32 y, .int .i32 z, .slice a n ca] 56)).alloc (.cells #[.int .i32 x, .int .i32 y, .int .i32 z, .slice a n ca] 56)).alloc (.cells #[.int .i32 x, .int .i32 y, .int .i32 z, .slice a n ca] 56)).alloc (.cells #[.int .i32 x, .int .i32 y, .int .i32 z, .slice a n ca] 56)).alloc (.cells #[.int .i32 x, .int .i32 y, .int .i32 z, .slice a n ca] 56)).drewN q := run26 x y z hn hA hB

/-- A run of the list, read. -/
theorem Aft.run {w : World} {d : Vd} {m : Vm} {g : Rd} {k : Rm} {N : Nat → Int} {E : Nat → Nat} {nb eb lb vb pv : Nat} {ra : Nat → Option Addr} {rc rb : Nat → Nat} {V W I R : Value} {l0 l : List (Value × Value × Value × Value)} {rra : Nat → Option Addr} {rrc rrb : Nat → Nat} {b0 : Nat}
    (h : Aft w d m g k N E nb eb lb vb pv ra rc rb V W I R l0 l rra rrc rrb b0) {oa : Option Addr} {n oc : Nat} (hR : R = .slice oa n oc) {q : Nat} {x y u S : Value} (hq : (l0 ++ l)[q]? = some (x, y, u, S)) :
    ∃ gg, oa = some ⟨gg, 0, none⟩ ∧ w.cell? ⟨gg, q * 4, none⟩ = some x ∧ w.cell? ⟨gg, q * 4 + 1, none⟩ = some y ∧ w.cell? ⟨gg, q * 4 + 2, none⟩ = some u ∧ w.cell? ⟨gg, q * 4 + 3, none⟩ = some S := by
  obtain ⟨g', cap', hv', _, c0, c1, c2, c3⟩ := h.own.cells hq
  rw [hR] at hv'
  simp at hv'
  exact ⟨g', hv'.1, c0, c1, c2, c3⟩
theorem Aft.old {w : World} {d : Vd} {m : Vm} {g : Rd} {k : Rm} {N : Nat → Int} {E : Nat → Nat} {nb eb lb vb pv : Nat} {ra : Nat → Option Addr} {rc rb : Nat → Nat} {V W I R : Value} {l0 l : List (Value × Value × Value × Value)} {rra : Nat → Option Addr} {rrc rrb : Nat → Nat} {b0 : Nat}
    (h : Aft w d m g k N E nb eb lb vb pv ra rc rb V W I R l0 l rra rrc rrb b0) {q : Nat} (hq : q < g.n) : (l0 ++ l)[q]? = some (Value.int .i32 (g.it q), Value.int .i32 (g.fi q), Value.int .i32 (g.la q), Value.slice (rra q) (g.sl q) (rrc q)) := by
  rw [List.getElem?_append_left (by rw [h.len0]; exact hq)]; exact h.l0at q hq
theorem Aft.new {w : World} {d : Vd} {m : Vm} {g : Rd} {k : Rm} {N : Nat → Int} {E : Nat → Nat} {nb eb lb vb pv : Nat} {ra : Nat → Option Addr} {rc rb : Nat → Nat} {V W I R : Value} {l0 l : List (Value × Value × Value × Value)} {rra : Nat → Option Addr} {rrc rrb : Nat → Nat} {b0 : Nat}
    (h : Aft w d m g k N E nb eb lb vb pv ra rc rb V W I R l0 l rra rrc rrb b0) {i : Nat} (hi : i < d.n) (hl : ledTo N d.n i = false) :
    ∃ S, (l0 ++ l)[g.n + (unl N d.n i).length]? = some (Value.int .i32 (d.it i), Value.int .i32 (i : Int), Value.int .i32 (E i : Int), S) ∧ SinkIs b0 w R d ra rc (E i) S := by
  obtain ⟨S, h1, h2⟩ := h.fresh.2 _ _ (unl_at N d.n hi hl)
  refine ⟨S, ?_, h2⟩
  rw [List.getElem?_append_right (by rw [h.len0]; omega), h.len0, Nat.add_sub_cancel_left]
  exact h1

set_option maxHeartbeats 400000 in
theorem link17 {w : World} {pv : Nat} {Q : Ending → World → Prop} (h : Calls Try.prog 51 #[.pointer (some ⟨pv, 0, none⟩)] w Q) (hq : ∀ e w', Q e w' → e = .returned (.tuple #[])) : Calls Try.prog 17 #[.pointer (some ⟨pv, 0, none⟩)] w Q := by
  go_enter Try.func17, Try.ntmps17
  go_wp2_with fail
  refine h.mono ?_
  intro e w' hQ
  have he := hq e w' hQ
  subst he
  go_wp2
  go_end0
  exact hQ

set_option maxHeartbeats 3200000 in
set_option maxRecDepth 100000 in
theorem law3 {w : World} {d : Vd} {m : Vm} {e : Wd} {f : Wm} {g : Rd} {k : Rm} {c1 c2 c3 : Nat} (hv : VersAt w d m) (hw : WritesAt w e f) (hR : RunsAt w g k) (imp : Bool) :
    Calls Try.prog 3 #[.slice m.a d.n c1, .slice f.a e.n c2, .slice k.a g.n c3, .bool imp] w fun e' w' => e' = .returned (.bool true) ∧ w.Since w.heap.size w' := by
  have h7 := bytes7 (c1 := c1) (c2 := c2) (c3 := c3) hv hw hR imp
  have h8 := fit8 (c1 := c1) (c2 := c2) (c3 := c3) hv hw hR
  have b1 := hv.bN
  have b2 := hw.bN
  have b3 := hR.bN
  have HV : Aside (VersAt w d m ∧ WritesAt w e f ∧ RunsAt w g k) := ⟨hv, hw, hR⟩
  have h9 := fun hn => domain9 (c1 := c1) (c2 := c2) hv hw hn
  obtain ⟨va, Hva⟩ : ∃ va, Aside (m.a = va) := ⟨_, rfl⟩
  obtain ⟨wa, Hwa⟩ : ∃ wa, Aside (f.a = wa) := ⟨_, rfl⟩
  obtain ⟨ka, Hka⟩ : ∃ ka, Aside (k.a = ka) := ⟨_, rfl⟩
  rw [Hva.out, Hwa.out, Hka.out] at h7 h8
  simp only [Hva.out, Hwa.out] at h9
  rw [Hva.out, Hwa.out, Hka.out]
  clear hv hw hR
  go_enter Try.func3, Try.ntmps3
  go_wp2_with fail
  refine h7.mono ?_
  rintro e' w1 ⟨⟨b, rfl, -⟩, hw1⟩
  obtain rfl := hw1.symm
  clear h7
  cases b
  · clear h8 h9
    go_wp2
    go_ret
    exact ⟨rfl, World.Since.refl _ _⟩
  go_wp2_with fail
  refine h8.mono ?_
  rintro e' w1 ⟨⟨b, rfl, hfit⟩, hw1⟩
  obtain rfl := hw1.symm
  clear h8
  cases b
  · clear hfit h9
    go_wp2
    go_ret
    exact ⟨rfl, World.Since.refl _ _⟩
  have HF : Aside (FitL d e g) := hfit rfl
  clear hfit
  have hn := HF.out.bounds.1
  go_wp2_with fail
  refine (h9 hn).mono ?_
  rintro e' w1 ⟨⟨b, rfl, hdom⟩, s1⟩
  clear h9
  cases b
  · clear hdom
    go_wp2
    go_ret
    exact ⟨rfl, s1⟩
  have HD : Aside (DomAll d e) := hdom rfl
  clear hdom
  obtain ⟨v1, u1, r1⟩ : VersAt w1 d m ∧ WritesAt w1 e f ∧ RunsAt w1 g k := ⟨HV.out.1.later s1 (Nat.le_refl _), HV.out.2.1.later s1 (Nat.le_refl _), HV.out.2.2.later s1 (Nat.le_refl _)⟩
  have h10 := model10 (c1 := c1) (c2 := c2) v1 u1 HD.out.1 hn
  rw [Hva.out, Hwa.out] at h10
  go_wp2_with fail
  refine h10.mono ?_
  rintro e' w2 ⟨nb, rfl, s2, rn2, hnb⟩
  obtain ⟨cl, Hcl⟩ : ∃ cl, Aside (clashTo d e d.n = cl) := ⟨_, rfl⟩
  rw [Hcl.out]
  obtain ⟨N, HN⟩ : ∃ N, Aside (nextOf d e = N) := ⟨_, rfl⟩
  rw [HN.out] at rn2
  have HNlt : Aside (∀ i, i < d.n → N i < (d.n : Int)) := by rw [← HN.out]; exact next_lt HD.out.1
  have HNlo : Aside (∀ i, i < d.n → -2147483648 ≤ N i) := by rw [← HN.out]; exact fun i hi => nextOf_lo (HV.out.1.bn i hi).1
  clear h10
  go_wp2_with fail
  refine (ends11 (IntsAt.ofRow rn2) hn HNlt.out HNlo.out).mono ?_
  rintro e' w3 ⟨eb, lg, rfl, s3, hlog, re3, heb⟩
  have rn3 := rowLater rn2 s3 (Nat.le_refl _)
  obtain ⟨E, HE⟩ : ∃ E, Aside (itr (stepN N) (2 ^ (lg + 1)) = E) := ⟨_, rfl⟩
  simp only [HE.out] at re3
  go_wp2_with fail
  refine (led12 (IntsAt.ofRow rn3) hn HNlt.out).mono ?_
  rintro e' w4 ⟨lb, rfl, s4, rl4, hlb⟩
  have rn4 := rowLater rn3 s4 (Nat.le_refl _)
  have re4 := rowLater re3 s4 (Nat.le_refl _)
  have s04 := sinceC s1 (sinceC s2 (sinceC s3 s4))
  obtain ⟨hs, hs1, hs2⟩ : ∃ s, IsLog d.n s ∧ ∀ i, i < d.n → ledTo N d.n i = false → N (itr (stepN N) (2 ^ (s + 1)) i) < 0 := by rw [← HN.out]; exact HD.out.2
  obtain rfl := hs1.uniq hlog
  rw [HE.out] at hs2
  have HCH : Aside (∀ i, i < d.n → ledTo N d.n i = false → N (E i) < 0) := hs2
  have HR4 : Aside (w4.rowIs nb 21 d.n (fun j => .int .i32 (N j)) ∧ w4.rowIs eb 3 d.n (fun j => .int .i64 (E j : Int)) ∧ w4.rowIs lb 4 d.n (fun j => .bool (ledTo N d.n j))) := ⟨rn4, re4, rl4⟩
  clear rn2 re3 rn3 rn4 re4 rl4 s1 s2 s3 s4 hs2 hs1 hlog v1 u1 r1 hnb heb hlb
  obtain ⟨v4, u4, r4⟩ : VersAt w4 d m ∧ WritesAt w4 e f ∧ RunsAt w4 g k := ⟨HV.out.1.later s04 (Nat.le_refl _), HV.out.2.1.later s04 (Nat.le_refl _), HV.out.2.2.later s04 (Nat.le_refl _)⟩
  have h14 := versIn14_any (c1 := c1) v4 hn HF.out.bounds.2.2.2.1
  rw [Hva.out] at h14
  go_wp2_with fail
  refine h14.mono ?_
  rintro e' w5 ⟨xa, xc, vb, ra, rc, rb, rfl, s5, hvb⟩
  have h15 := writesIn15_any (c1 := c2) (u4.later s5 (Nat.le_refl _)) HF.out.bounds.2.1 HF.out.bounds.2.2.2.2.1
  rw [Hwa.out] at h15
  clear h14
  go_wp2_with fail
  refine h15.mono ?_
  rintro e' w6 ⟨f6, c6, rfl, s6, hw6, hf6, hf6'⟩
  have s46 := sinceC s5 s6
  have h16 := runsIn16_any (c1 := c3) (r4.later s46 (Nat.le_refl _)) HF.out.bounds.2.2.1 HF.out.bounds.2.2.2.2.2
  rw [Hka.out] at h16
  obtain ⟨fa, Hfa⟩ : ∃ fa, Aside (f6.a = fa) := ⟨_, rfl⟩
  rw [Hfa.out]
  clear h15
  go_wp2_with fail
  refine h16.mono ?_
  rintro e' w7 hrm
  obtain ⟨ga, gc, l0, rra, rrc, rrb, rfl, s7, hrin⟩ := runs_in hrm HF.out.bounds.2.2.1
  clear h16 hrm
  go_wp2_with fail
  refine (make13 w7 xa ga fa d.n xc g.n gc e.n c6 imp).mono ?_
  rintro e' w8 ⟨rfl, hw8⟩
  have hL := link_all (imp := imp) (xc := xc) (c6 := c6) (m := m) (k := k) (K := 2 ^ (hs + 1)) (E := E) (nb := nb) (eb := eb) (lb := lb) v4 r4 (by rw [HN.out]; exact HR4.out.1) HR4.out.2.1 (by rw [HN.out]; exact HR4.out.2.2) s5 hvb s6 hw6 hf6 hf6' s7 hrin HD.out.1 hn HF.out.bounds.2.2.2.1 HF.out.bounds.2.2.1 (by rw [HN.out]; exact HE.out) (by rw [HN.out]; exact HCH.out)
  rw [Hfa.out, HN.out, Hcl.out, ← hw8] at hL
  clear v4 u4 r4 s5 hvb s6 hw6 hf6 hf6' s7 hrin s46 hw8
  go_wp2_with fail
  refine (link17 hL (fun e' w' h => h.1)).mono ?_
  rintro e' w9 ⟨rfl, s9, vb', R, l, hxa, hA⟩
  obtain ⟨pv, Hpv⟩ : ∃ pv, Aside (w7.heap.size = pv) := ⟨_, rfl⟩
  rw [Hpv.out] at hA
  have s09 := sinceC s04 s9
  rw [Hpv.out]
  clear hL s9 s04
  have p1 : w9.cell? ⟨pv, 1, none⟩ = some (.slice xa d.n xc) := hA.vw.cell (i := 1) (by omega)
  go_wp2_with fail
  refine (vers18 p1).mono ?_
  rintro e' w10 ⟨rfl, rfl⟩
  clear p1
  have t0 : ((d.n : Int) != (d.n : Int)) = false := by simp
  go_wp2
  -- THE VERSIONS
  go_loopg [16] d.n (fun gg s16 wr => ∃ i : Nat, i ≤ d.n ∧ gg = d.n - i ∧ s16 = .int .i64 (i : Int) ∧ w.Since w.heap.size wr ∧ Aft wr d m g k N E nb eb lb vb' pv ra rc rb (.slice xa d.n xc) (.slice fa e.n c6) (.bool (imp || cl)) R l0 l rra rrc rrb pv)
  case atStart => exact ⟨0, Nat.zero_le _, rfl, rfl, s09, hA⟩
  case round =>
    clear hA s09
    obtain ⟨i, hi, rfl, rfl, s0, hA⟩ := hrel
    by_cases hin : i < d.n
    · have hiz : (i : Int) < (d.n : Int) := by omega
      obtain rfl := hxa (by omega)
      obtain rfl : va = some ⟨m.b, m.o, none⟩ := Hva.out.symm.trans (hA.vers.addr (by omega))
      obtain ⟨x0, x1, x2, x3⟩ := quad_cells (hA.vrow (by omega)) hin
      obtain ⟨ar, HAr⟩ : ∃ ar, Aside (ra i = ar) := ⟨_, rfl⟩
      rw [HAr.out] at x2
      have y0 := hA.vers.cw i hin
      have y1 := hA.vers.ci i hin
      have y2 := hA.vers.cr i hin
      have z0 := hA.next.cell hin
      obtain ⟨am, HAm⟩ : ∃ am, Aside (m.ra i = am) := ⟨_, rfl⟩
      rw [HAm.out] at y2
      have lm : m.b < wr.heap.size := World.block_lt_of_cell? _ _ y0
      have ln : nb < wr.heap.size := hA.next.lt
      have e0 : (d.wr i != d.wr i) = false := by simp
      have e1 : (d.it i != d.it i) = false := by simp
      go_wp2_with fail
      go_region_held3 (fun w' => w'.cell? ⟨wr.heap.size, 0, none⟩ = some (.int .i32 (d.wr i)) ∧ w'.cell? ⟨wr.heap.size, 1, none⟩ = some (.int .i32 (d.it i)) ∧ w'.cell? ⟨wr.heap.size, 2, none⟩ = some (.slice ar (d.rl i) (rc i)) ∧ w'.cell? ⟨wr.heap.size, 3, none⟩ = some (.int .i32 (N i)) ∧ w'.cell? ⟨m.b, m.o + i * 4, none⟩ = some (.int .i32 (d.wr i)) ∧ w'.cell? ⟨m.b, m.o + i * 4 + 1, none⟩ = some (.int .i32 (d.it i))) (simp (maxDischargeDepth := 12) [*, World.cell?_alloc_some]) (first | (go_at_call 19; refine (get19 _ _ _ _ _ _ _).mono ?_; rintro e w' ⟨rfl, rfl⟩) | (go_at_call 20; refine (get20 _ _ _ _ _ _ _).mono ?_; rintro e w' ⟨rfl, rfl⟩))
      have HI : Aside (IntsAt .i32 wr ar (d.rl i) (d.r i) (rb i) 0 ∧ IntsAt .i32 wr am (d.rl i) (d.r i) (m.rb i) (m.ro i) ∧ d.rl i ≤ 9223372036854775807) := by
        rw [← HAr.out, ← HAm.out]; exact ⟨hA.rd i hin, hA.vers.ints hin, hA.vers.bl i hin⟩
      have HAA : Aside (w.Since w.heap.size wr ∧ Aft wr d m g k N E nb eb lb vb' pv ra rc rb (.slice (some ⟨vb', 0, none⟩) d.n xc) (.slice fa e.n c6) (.bool (imp || cl)) R l0 l rra rrc rrb pv) := ⟨s0, hA⟩
      clear s0 hA
      go_wp2_with fail
      go_region_held3 (fun w' => w'.cell? ⟨wr.heap.size, 0, none⟩ = some (.int .i32 (d.wr i)) ∧ w'.cell? ⟨wr.heap.size, 1, none⟩ = some (.int .i32 (d.it i)) ∧ w'.cell? ⟨wr.heap.size, 2, none⟩ = some (.slice ar (d.rl i) (rc i)) ∧ w'.cell? ⟨wr.heap.size, 3, none⟩ = some (.int .i32 (N i)) ∧ w'.cell? ⟨m.b, m.o + i * 4 + 2, none⟩ = some (.slice am (d.rl i) (m.rc i))) (simp (maxDischargeDepth := 12) [*, World.cell?_alloc_some]) (first | (go_at_call 22; refine (get22 _ _ _ _ _ _ _).mono ?_; rintro e w' ⟨rfl, rfl⟩) | (go_at_call 21; refine (equal21d HI.out.2.2 (HI.out.1.later (by repeat' (first | exact World.Since.refl _ _ | apply sDrewN | apply sDrew | apply sAlloc)) (Nat.le_refl _)) (HI.out.2.1.later (by repeat' (first | exact World.Since.refl _ _ | apply sDrewN | apply sDrew | apply sAlloc)) (Nat.le_refl _))).mono ?_; rintro e w' ⟨rfl, q, rfl⟩))
      have e2 : (N i != N i) = false := by simp
      go_wp2_with fail
      go_region_held3 (fun w' => w'.cell? ⟨wr.heap.size, 0, none⟩ = some (.int .i32 (d.wr i)) ∧ w'.cell? ⟨wr.heap.size, 1, none⟩ = some (.int .i32 (d.it i)) ∧ w'.cell? ⟨wr.heap.size, 2, none⟩ = some (.slice ar (d.rl i) (rc i)) ∧ w'.cell? ⟨wr.heap.size, 3, none⟩ = some (.int .i32 (N i)) ∧ w'.cell? ⟨nb, i, none⟩ = some (.int .i32 (N i))) (simp (maxDischargeDepth := 12) [*, World.cell?_alloc_some]) (first | (go_at_call 23; refine (get23 _ _ _ _ _ _ _).mono ?_; rintro e w' ⟨rfl, rfl⟩))
      go_wp2
      go_roundg (d.n - (i + 1))
      case measure => go_light; omega
      case rel =>
        go_light
        refine (fun (hs : World.Since wr.heap.size wr _) => ⟨i + 1, by omega, rfl, by simp, sinceC HAA.out.1 hs, HAA.out.2.later hs⟩) ?_
        repeat' (first | exact World.Since.refl _ _ | apply sDrewN | apply sDrew | apply sAlloc)
    · have hiz : ¬ (i : Int) < (d.n : Int) := by omega
      obtain rfl : i = d.n := by omega
      have p11 : wr.cell? ⟨pv, 11, none⟩ = some (.bool (imp || cl)) := hA.vw.cell (i := 11) (by omega)
      have HAA : Aside (w.Since w.heap.size wr ∧ Aft wr d m g k N E nb eb lb vb' pv ra rc rb (.slice xa d.n xc) (.slice fa e.n c6) (.bool (imp || cl)) R l0 l rra rrc rrb pv) := ⟨s0, hA⟩
      clear s0 hA
      go_wp2_with fail
      refine (imp24 p11).mono ?_
      rintro e' w10 ⟨rfl, hw10⟩
      obtain rfl := hw10.symm
      clear hw10
      clear p11
      cases imp
      · have t1 : (cl != cl) = false := by simp
        go_wp2
        clear t1
        -- HOW MANY ARE UNLED
        go_loopg [18, 19] d.n (fun gg s18 s19 wi => ∃ i : Nat, i ≤ d.n ∧ gg = d.n - i ∧ s19 = .int .i64 (i : Int) ∧ s18 = .int .i64 ((unl N d.n i).length : Int) ∧ wi = wr)
        case atStart => exact ⟨0, Nat.zero_le _, rfl, rfl, rfl, rfl⟩
        case round =>
          obtain ⟨i, hi, rfl, rfl, rfl, rfl⟩ := hrel
          have hul := unl_length N d.n i
          by_cases hin : i < d.n
          · have hiz : (i : Int) < (d.n : Int) := by omega
            have q1 := HAA.out.2.led.cell hin
            cases hled : ledTo N d.n i with
            | true =>
              have Hu : Aside (unl N d.n (i + 1) = unl N d.n i) := unl_led hled
              rw [hled] at q1
              clear hled
              go_wp2
              go_roundg (d.n - (i + 1))
              case measure => go_light; omega
              case rel => go_light; exact ⟨i + 1, by omega, rfl, by simp, by rw [Hu.out], rfl⟩
            | false =>
              have Hu : Aside (unl N d.n (i + 1) = unl N d.n i ++ [i]) := unl_free hled
              rw [hled] at q1
              clear hled
              go_wp2
              go_roundg (d.n - (i + 1))
              case measure => go_light; omega
              case rel => go_light; exact ⟨i + 1, by omega, rfl, by simp, by rw [Hu.out]; simp, rfl⟩
          · have hiz : ¬ (i : Int) < (d.n : Int) := by omega
            obtain rfl : i = d.n := by omega
            have p3 : wr.cell? ⟨pv, 3, none⟩ = some R := HAA.out.2.vw.cell (i := 3) (by omega)
            obtain ⟨oa, oc, og, hRs, hcells⟩ := HAA.out.2.shape
            rw [hRs] at p3
            have hgn := HF.out.bounds.2.2.1
            go_wp2_with fail
            refine (runs25 p3).mono ?_
            rintro e' w10 ⟨rfl, hw10⟩
            obtain rfl := hw10.symm
            have HRs : Aside (R = .slice oa (g.n + (unl N d.n d.n).length) oc) := hRs
            clear p3 hcells hRs
            obtain ⟨nu, Hnu⟩ : ∃ nu, Aside ((unl N d.n d.n).length = nu) := ⟨_, rfl⟩
            rw [Hnu.out] at hul ⊢
            have t2 : (((g.n + nu : Nat) : Int) != (g.n : Int) + (nu : Int)) = false := by simp
            go_wp2
            clear t2
            have hsA := HAA.out
            -- THE RUNS THAT WERE THERE
            go_loopg [21] g.n (fun gg s21 wi => ∃ q : Nat, q ≤ g.n ∧ gg = g.n - q ∧ s21 = .int .i64 (q : Int) ∧ w.Since w.heap.size wi ∧ Aft wi d m g k N E nb eb lb vb' pv ra rc rb (.slice xa d.n xc) (.slice fa e.n c6) (.bool (false || cl)) R l0 l rra rrc rrb pv)
            case atStart => exact ⟨0, Nat.zero_le _, rfl, rfl, hsA.1, hsA.2⟩
            case round =>
              clear hsA HAA
              obtain ⟨q, hq, rfl, rfl, s0, hA⟩ := hrel
              by_cases hqg : q < g.n
              · have hqz : (q : Int) < (g.n : Int) := by omega
                have hqz2 : (q : Int) < (g.n : Int) + (nu : Int) := by omega
                obtain ⟨gg, hoa, x0, x1, x2, x3⟩ := hA.run HRs.out (hA.old hqg)
                subst hoa
                obtain rfl : ka = some ⟨k.b, k.o, none⟩ := Hka.out.symm.trans (hA.runs.addr (by omega))
                have y0 := hA.runs.ci q hqg
                have y1 := hA.runs.cf q hqg
                have y2 := hA.runs.cl q hqg
                have y3 := hA.runs.cs q hqg
                obtain ⟨ar, HAr⟩ : ∃ ar, Aside (rra q = ar) := ⟨_, rfl⟩
                rw [HAr.out] at x3
                obtain ⟨am, HAm⟩ : ∃ am, Aside (k.ra q = am) := ⟨_, rfl⟩
                rw [HAm.out] at y3
                have HI : Aside (IntsAt .i32 wr ar (g.sl q) (g.s q) (rrb q) 0 ∧ IntsAt .i32 wr am (g.sl q) (g.s q) (k.rb q) (k.ro q) ∧ g.sl q ≤ 9223372036854775807) := by
                  rw [← HAr.out, ← HAm.out]; exact ⟨hA.rrd q hqg, hA.runs.ints hqg, hA.runs.bl q hqg⟩
                have HB : Aside (w.Since w.heap.size wr ∧ Aft wr d m g k N E nb eb lb vb' pv ra rc rb (.slice xa d.n xc) (.slice fa e.n c6) (.bool (false || cl)) R l0 l rra rrc rrb pv) := ⟨s0, hA⟩
                clear s0 hA
                go_wp2_with fail
                go_region_held3 (fun w' => w'.cell? ⟨gg, q * 4, none⟩ = some (.int .i32 (g.it q)) ∧ w'.cell? ⟨gg, q * 4 + 1, none⟩ = some (.int .i32 (g.fi q)) ∧ w'.cell? ⟨gg, q * 4 + 2, none⟩ = some (.int .i32 (g.la q)) ∧ w'.cell? ⟨gg, q * 4 + 3, none⟩ = some (.slice ar (g.sl q) (rrc q)) ∧ w'.cell? ⟨k.b, k.o + q * 4, none⟩ = some (.int .i32 (g.it q)) ∧ w'.cell? ⟨k.b, k.o + q * 4 + 1, none⟩ = some (.int .i32 (g.fi q)) ∧ w'.cell? ⟨k.b, k.o + q * 4 + 2, none⟩ = some (.int .i32 (g.la q)) ∧ w'.cell? ⟨k.b, k.o + q * 4 + 3, none⟩ = some (.slice am (g.sl q) (k.rc q))) (simp (maxDischargeDepth := 12) [*, World.cell?_alloc_some]) (first | (go_at_call 26; refine (run26e _ _ _ HI.out.2.2 (HI.out.1.later (by repeat' (first | exact World.Since.refl _ _ | apply sDrewN | apply sDrew | apply sAlloc)) (Nat.le_refl _)) (HI.out.2.1.later (by repeat' (first | exact World.Since.refl _ _ | apply sDrewN | apply sDrew | apply sAlloc)) (Nat.le_refl _))).mono ?_; rintro e w' ⟨rfl, qd, rfl⟩))
                go_wp2
                go_roundg (g.n - (q + 1))
                case measure => go_light; omega
                case rel =>
                  go_light
                  refine (fun (hs : World.Since wr.heap.size wr _) => ⟨q + 1, by omega, rfl, by simp, sinceC HB.out.1 hs, HB.out.2.later hs⟩) ?_
                  repeat' (first | exact World.Since.refl _ _ | apply sDrewN | apply sDrew | apply sAlloc)
              · have hqz : ¬ (q : Int) < (g.n : Int) := by omega
                obtain rfl : q = g.n := by omega
                have hsA : w.Since w.heap.size wr ∧ Aft wr d m g k N E nb eb lb vb' pv ra rc rb (.slice xa d.n xc) (.slice fa e.n c6) (.bool (false || cl)) R l0 l rra rrc rrb pv := ⟨s0, hA⟩
                clear s0 hA
                go_wp2
                -- THE NEW RUNS
                go_loopg [22, 23] d.n (fun gg s22 s23 wi => ∃ i kk : Nat, i ≤ d.n ∧ gg = d.n - i ∧ s23 = .int .i64 (i : Int) ∧ s22 = .int .i64 (kk : Int) ∧ kk = g.n + (unl N d.n i).length ∧ w.Since w.heap.size wi ∧ Aft wi d m g k N E nb eb lb vb' pv ra rc rb (.slice xa d.n xc) (.slice fa e.n c6) (.bool (false || cl)) R l0 l rra rrc rrb pv)
                case atStart => exact ⟨0, g.n, Nat.zero_le _, rfl, rfl, rfl, by simp [unl], hsA.1, hsA.2⟩
                case round =>
                  clear hsA
                  obtain ⟨i, kk, hi, rfl, rfl, rfl, hkk, s0, hA⟩ := hrel
                  have HKK : Aside (kk = g.n + (unl N d.n i).length) := hkk
                  clear hkk
                  by_cases hin : i < d.n
                  · have hiz : (i : Int) < (d.n : Int) := by omega
                    have q1 := hA.led.cell hin
                    have HB : Aside (w.Since w.heap.size wr ∧ Aft wr d m g k N E nb eb lb vb' pv ra rc rb (.slice xa d.n xc) (.slice fa e.n c6) (.bool (false || cl)) R l0 l rra rrc rrb pv) := ⟨s0, hA⟩
                    cases hled : ledTo N d.n i with
                    | true =>
                      have Hu : Aside (unl N d.n (i + 1) = unl N d.n i) := unl_led hled
                      rw [hled] at q1
                      clear hled s0 hA
                      go_wp2
                      go_roundg (d.n - (i + 1))
                      case measure => go_light; omega
                      case rel => go_light; exact ⟨i + 1, kk, by omega, rfl, by simp, rfl, by rw [HKK.out, Hu.out], HB.out.1, HB.out.2⟩
                    | false =>
                      have Hu : Aside (unl N d.n (i + 1) = unl N d.n i ++ [i]) := unl_free hled
                      obtain ⟨S, hS1, hS⟩ := hA.new hin hled
                      rw [← HKK.out] at hS1
                      have hku : kk < g.n + nu := by
                        have h1 := (List.getElem?_eq_some_iff.1 (unl_at N d.n hin hled)).1
                        have := HKK.out
                        have := Hnu.out
                        omega
                      obtain ⟨gg, hoa, x0, x1, x2, x3⟩ := hA.run HRs.out hS1
                      subst hoa
                      clear hS1
                      have hkz : (kk : Int) < (g.n : Int) + (nu : Int) := by omega
                      rw [hled] at q1
                      clear hled
                      obtain rfl : va = some ⟨m.b, m.o, none⟩ := Hva.out.symm.trans (hA.vers.addr (by omega))
                      have hy : E i < d.n := by rw [← HE.out]; exact itr_lt HNlt.out _ i hin
                      have q2 := hA.ends.cell hin
                      obtain ⟨y, Hy⟩ : ∃ y, Aside (E i = y) := ⟨_, rfl⟩
                      rw [Hy.out] at hy q2 x2 hS
                      have hyz : (y : Int) < (d.n : Int) := by omega
                      have y0 := hA.vers.cw y hy
                      have y1 := hA.vers.ci i hin
                      have y2 := hA.vers.cr y hy
                      obtain ⟨am, HAm⟩ : ∃ am, Aside (m.ra y = am) := ⟨_, rfl⟩
                      rw [HAm.out] at y2
                      have hwi : IntKind.i32.wrap (i : Int) = (i : Int) := by rw [IntKind.wrap_i32]; omega
                      have hwy : IntKind.i32.wrap (y : Int) = (y : Int) := by rw [IntKind.wrap_i32]; omega
                      by_cases hrl : d.rl y = 0
                      · have HRL0 : Aside (d.rl y = 0) := hrl
                        have t1 : ((d.rl y : Int) == 0) = true := by simp [hrl]
                        by_cases hww : 0 ≤ d.wr y
                        · obtain ⟨sb, hSe, hsb⟩ : ∃ sb, S = .slice (some ⟨sb, 0, none⟩) 1 1 ∧ wr.cell? ⟨sb, 0, none⟩ = some (.int .i32 (d.wr y)) := by
                            rcases hS with h | ⟨_, _, sb, h3, _, _, h6⟩
                            · exact absurd ⟨hrl, hww⟩ h.1
                            · exact ⟨sb, h3, h6⟩
                          rw [hSe] at x3
                          have hz1 : (wr.alloc (.cells #[.int .i32 (d.wr y)] 21)).cell? ⟨sb, 0, none⟩ = some (.int .i32 (d.wr y)) := by
                            rw [World.cell?_of_block (w := wr) (Go.Deep.blk_alloc_lt _ _ _ (World.block_lt_of_cell? _ _ hsb))]; exact hsb
                          have hz2 : (wr.alloc (.cells #[.int .i32 (d.wr y)] 21)).cell? ⟨wr.heap.size, 0, none⟩ = some (.int .i32 (d.wr y)) := by simp
                          have HI : Aside (IntsAt .i32 (wr.alloc (.cells #[.int .i32 (d.wr y)] 21)) (some ⟨sb, 0, none⟩) 1 (fun _ => d.wr y) sb 0 ∧ IntsAt .i32 (wr.alloc (.cells #[.int .i32 (d.wr y)] 21)) (some ⟨wr.heap.size, 0, none⟩) 1 (fun _ => d.wr y) wr.heap.size 0 ∧ 1 ≤ 9223372036854775807) :=
                            ⟨⟨fun _ => rfl, fun j hj => by obtain rfl : j = 0 := by omega
                                                           exact hz1⟩, ⟨fun _ => rfl, fun j hj => by obtain rfl : j = 0 := by omega
                                                                                                     exact hz2⟩, by omega⟩
                          clear s0 hA hSe hS hrl hz1 hz2 hsb
                          go_wp2_with fail
                          go_region_held3 (fun w' => w'.cell? ⟨gg, kk * 4, none⟩ = some (.int .i32 (d.it i)) ∧ w'.cell? ⟨gg, kk * 4 + 1, none⟩ = some (.int .i32 (i : Int)) ∧ w'.cell? ⟨gg, kk * 4 + 2, none⟩ = some (.int .i32 (y : Int)) ∧ w'.cell? ⟨gg, kk * 4 + 3, none⟩ = some (.slice (some ⟨sb, 0, none⟩) 1 1) ∧ w'.cell? ⟨m.b, m.o + i * 4 + 1, none⟩ = some (.int .i32 (d.it i))) (simp (maxDischargeDepth := 12) [*, World.cell?_alloc_some]) (first | (go_at_call 26; refine (run26e _ _ _ HI.out.2.2 (HI.out.1.later (by repeat' (first | exact World.Since.refl _ _ | apply sDrewN | apply sDrew | apply sAlloc)) (Nat.le_refl _)) (HI.out.2.1.later (by repeat' (first | exact World.Since.refl _ _ | apply sDrewN | apply sDrew | apply sAlloc)) (Nat.le_refl _))).mono ?_; rintro e w' ⟨rfl, qd, rfl⟩))
                          go_wp2
                          go_roundg (d.n - (i + 1))
                          case measure => go_light; omega
                          case rel =>
                            go_light
                            refine (fun (hs : World.Since wr.heap.size wr _) => ⟨i + 1, kk + 1, by omega, rfl, by simp, by simp, by rw [HKK.out, Hu.out]; simp; omega, sinceC HB.out.1 hs, HB.out.2.later hs⟩) ?_
                            repeat' (first | exact World.Since.refl _ _ | apply sDrewN | apply sDrew | apply sAlloc)
                        · have hS2 : S = .slice (ra y) (d.rl y) (rc y) := by
                            rcases hS with h | h
                            · exact h.2
                            · exact absurd h.2.1 hww
                          have hww' : d.wr y < 0 := by omega
                          clear hS hrl
                          rw [hS2] at x3
                          obtain ⟨ar, HAr⟩ : ∃ ar, Aside (ra y = ar) := ⟨_, rfl⟩
                          rw [HAr.out] at x3
                          have HI : Aside (IntsAt .i32 wr ar (d.rl y) (d.r y) (rb y) 0 ∧ IntsAt .i32 wr am (d.rl y) (d.r y) (m.rb y) (m.ro y) ∧ d.rl y ≤ 9223372036854775807) := by
                            rw [← HAr.out, ← HAm.out]; exact ⟨hA.rd y hy, hA.vers.ints hy, hA.vers.bl y hy⟩
                          clear s0 hA hS2
                          go_wp2_with fail
                          go_region_held3 (fun w' => w'.cell? ⟨gg, kk * 4, none⟩ = some (.int .i32 (d.it i)) ∧ w'.cell? ⟨gg, kk * 4 + 1, none⟩ = some (.int .i32 (i : Int)) ∧ w'.cell? ⟨gg, kk * 4 + 2, none⟩ = some (.int .i32 (y : Int)) ∧ w'.cell? ⟨gg, kk * 4 + 3, none⟩ = some (.slice ar (d.rl y) (rc y)) ∧ w'.cell? ⟨m.b, m.o + i * 4 + 1, none⟩ = some (.int .i32 (d.it i))) (simp (maxDischargeDepth := 12) [*, World.cell?_alloc_some]) (first | (go_at_call 26; refine (run26e _ _ _ HI.out.2.2 (HI.out.1.later (by repeat' (first | exact World.Since.refl _ _ | apply sDrewN | apply sDrew | apply sAlloc)) (Nat.le_refl _)) (HI.out.2.1.later (by repeat' (first | exact World.Since.refl _ _ | apply sDrewN | apply sDrew | apply sAlloc)) (Nat.le_refl _))).mono ?_; rintro e w' ⟨rfl, qd, rfl⟩))
                          go_wp2
                          go_roundg (d.n - (i + 1))
                          case measure => go_light; omega
                          case rel =>
                            go_light
                            refine (fun (hs : World.Since wr.heap.size wr _) => ⟨i + 1, kk + 1, by omega, rfl, by simp, by simp, by rw [HKK.out, Hu.out]; simp; omega, sinceC HB.out.1 hs, HB.out.2.later hs⟩) ?_
                            repeat' (first | exact World.Since.refl _ _ | apply sDrewN | apply sDrew | apply sAlloc)
                      · have t1 : ((d.rl y : Int) == 0) = false := by simp; omega
                        have hS2 : S = .slice (ra y) (d.rl y) (rc y) := by
                          rcases hS with h | h
                          · exact h.2
                          · exact absurd h.1 hrl
                        clear hS hrl
                        rw [hS2] at x3
                        obtain ⟨ar, HAr⟩ : ∃ ar, Aside (ra y = ar) := ⟨_, rfl⟩
                        rw [HAr.out] at x3
                        have HI : Aside (IntsAt .i32 wr ar (d.rl y) (d.r y) (rb y) 0 ∧ IntsAt .i32 wr am (d.rl y) (d.r y) (m.rb y) (m.ro y) ∧ d.rl y ≤ 9223372036854775807) := by
                          rw [← HAr.out, ← HAm.out]; exact ⟨hA.rd y hy, hA.vers.ints hy, hA.vers.bl y hy⟩
                        clear s0 hA hS2
                        go_wp2_with fail
                        go_region_held3 (fun w' => w'.cell? ⟨gg, kk * 4, none⟩ = some (.int .i32 (d.it i)) ∧ w'.cell? ⟨gg, kk * 4 + 1, none⟩ = some (.int .i32 (i : Int)) ∧ w'.cell? ⟨gg, kk * 4 + 2, none⟩ = some (.int .i32 (y : Int)) ∧ w'.cell? ⟨gg, kk * 4 + 3, none⟩ = some (.slice ar (d.rl y) (rc y)) ∧ w'.cell? ⟨m.b, m.o + i * 4 + 1, none⟩ = some (.int .i32 (d.it i))) (simp (maxDischargeDepth := 12) [*, World.cell?_alloc_some]) (first | (go_at_call 26; refine (run26e _ _ _ HI.out.2.2 (HI.out.1.later (by repeat' (first | exact World.Since.refl _ _ | apply sDrewN | apply sDrew | apply sAlloc)) (Nat.le_refl _)) (HI.out.2.1.later (by repeat' (first | exact World.Since.refl _ _ | apply sDrewN | apply sDrew | apply sAlloc)) (Nat.le_refl _))).mono ?_; rintro e w' ⟨rfl, qd, rfl⟩))
                        go_wp2
                        go_roundg (d.n - (i + 1))
                        case measure => go_light; omega
                        case rel =>
                          go_light
                          refine (fun (hs : World.Since wr.heap.size wr _) => ⟨i + 1, kk + 1, by omega, rfl, by simp, by simp, by rw [HKK.out, Hu.out]; simp; omega, sinceC HB.out.1 hs, HB.out.2.later hs⟩) ?_
                          repeat' (first | exact World.Since.refl _ _ | apply sDrewN | apply sDrew | apply sAlloc)
                  · have hiz : ¬ (i : Int) < (d.n : Int) := by omega
                    go_wp2
                    go_ret
                    exact ⟨rfl, s0⟩
      · have t1 : (true != true) = false := by simp
        go_wp2
        clear t1
        -- HOW MANY ARE UNLED
        go_loopg [18, 19] d.n (fun gg s18 s19 wi => ∃ i : Nat, i ≤ d.n ∧ gg = d.n - i ∧ s19 = .int .i64 (i : Int) ∧ s18 = .int .i64 ((unl N d.n i).length : Int) ∧ wi = wr)
        case atStart => exact ⟨0, Nat.zero_le _, rfl, rfl, rfl, rfl⟩
        case round =>
          obtain ⟨i, hi, rfl, rfl, rfl, rfl⟩ := hrel
          have hul := unl_length N d.n i
          by_cases hin : i < d.n
          · have hiz : (i : Int) < (d.n : Int) := by omega
            have q1 := HAA.out.2.led.cell hin
            cases hled : ledTo N d.n i with
            | true =>
              have Hu : Aside (unl N d.n (i + 1) = unl N d.n i) := unl_led hled
              rw [hled] at q1
              clear hled
              go_wp2
              go_roundg (d.n - (i + 1))
              case measure => go_light; omega
              case rel => go_light; exact ⟨i + 1, by omega, rfl, by simp, by rw [Hu.out], rfl⟩
            | false =>
              have Hu : Aside (unl N d.n (i + 1) = unl N d.n i ++ [i]) := unl_free hled
              rw [hled] at q1
              clear hled
              go_wp2
              go_roundg (d.n - (i + 1))
              case measure => go_light; omega
              case rel => go_light; exact ⟨i + 1, by omega, rfl, by simp, by rw [Hu.out]; simp, rfl⟩
          · have hiz : ¬ (i : Int) < (d.n : Int) := by omega
            obtain rfl : i = d.n := by omega
            have p3 : wr.cell? ⟨pv, 3, none⟩ = some R := HAA.out.2.vw.cell (i := 3) (by omega)
            obtain ⟨oa, oc, og, hRs, hcells⟩ := HAA.out.2.shape
            rw [hRs] at p3
            have hgn := HF.out.bounds.2.2.1
            go_wp2_with fail
            refine (runs25 p3).mono ?_
            rintro e' w10 ⟨rfl, hw10⟩
            obtain rfl := hw10.symm
            have HRs : Aside (R = .slice oa (g.n + (unl N d.n d.n).length) oc) := hRs
            clear p3 hcells hRs
            obtain ⟨nu, Hnu⟩ : ∃ nu, Aside ((unl N d.n d.n).length = nu) := ⟨_, rfl⟩
            rw [Hnu.out] at hul ⊢
            have t2 : (((g.n + nu : Nat) : Int) != (g.n : Int) + (nu : Int)) = false := by simp
            go_wp2
            clear t2
            have hsA := HAA.out
            -- THE RUNS THAT WERE THERE
            go_loopg [21] g.n (fun gg s21 wi => ∃ q : Nat, q ≤ g.n ∧ gg = g.n - q ∧ s21 = .int .i64 (q : Int) ∧ w.Since w.heap.size wi ∧ Aft wi d m g k N E nb eb lb vb' pv ra rc rb (.slice xa d.n xc) (.slice fa e.n c6) (.bool (true || cl)) R l0 l rra rrc rrb pv)
            case atStart => exact ⟨0, Nat.zero_le _, rfl, rfl, hsA.1, hsA.2⟩
            case round =>
              clear hsA HAA
              obtain ⟨q, hq, rfl, rfl, s0, hA⟩ := hrel
              by_cases hqg : q < g.n
              · have hqz : (q : Int) < (g.n : Int) := by omega
                have hqz2 : (q : Int) < (g.n : Int) + (nu : Int) := by omega
                obtain ⟨gg, hoa, x0, x1, x2, x3⟩ := hA.run HRs.out (hA.old hqg)
                subst hoa
                obtain rfl : ka = some ⟨k.b, k.o, none⟩ := Hka.out.symm.trans (hA.runs.addr (by omega))
                have y0 := hA.runs.ci q hqg
                have y1 := hA.runs.cf q hqg
                have y2 := hA.runs.cl q hqg
                have y3 := hA.runs.cs q hqg
                obtain ⟨ar, HAr⟩ : ∃ ar, Aside (rra q = ar) := ⟨_, rfl⟩
                rw [HAr.out] at x3
                obtain ⟨am, HAm⟩ : ∃ am, Aside (k.ra q = am) := ⟨_, rfl⟩
                rw [HAm.out] at y3
                have HI : Aside (IntsAt .i32 wr ar (g.sl q) (g.s q) (rrb q) 0 ∧ IntsAt .i32 wr am (g.sl q) (g.s q) (k.rb q) (k.ro q) ∧ g.sl q ≤ 9223372036854775807) := by
                  rw [← HAr.out, ← HAm.out]; exact ⟨hA.rrd q hqg, hA.runs.ints hqg, hA.runs.bl q hqg⟩
                have HB : Aside (w.Since w.heap.size wr ∧ Aft wr d m g k N E nb eb lb vb' pv ra rc rb (.slice xa d.n xc) (.slice fa e.n c6) (.bool (true || cl)) R l0 l rra rrc rrb pv) := ⟨s0, hA⟩
                clear s0 hA
                go_wp2_with fail
                go_region_held3 (fun w' => w'.cell? ⟨gg, q * 4, none⟩ = some (.int .i32 (g.it q)) ∧ w'.cell? ⟨gg, q * 4 + 1, none⟩ = some (.int .i32 (g.fi q)) ∧ w'.cell? ⟨gg, q * 4 + 2, none⟩ = some (.int .i32 (g.la q)) ∧ w'.cell? ⟨gg, q * 4 + 3, none⟩ = some (.slice ar (g.sl q) (rrc q)) ∧ w'.cell? ⟨k.b, k.o + q * 4, none⟩ = some (.int .i32 (g.it q)) ∧ w'.cell? ⟨k.b, k.o + q * 4 + 1, none⟩ = some (.int .i32 (g.fi q)) ∧ w'.cell? ⟨k.b, k.o + q * 4 + 2, none⟩ = some (.int .i32 (g.la q)) ∧ w'.cell? ⟨k.b, k.o + q * 4 + 3, none⟩ = some (.slice am (g.sl q) (k.rc q))) (simp (maxDischargeDepth := 12) [*, World.cell?_alloc_some]) (first | (go_at_call 26; refine (run26e _ _ _ HI.out.2.2 (HI.out.1.later (by repeat' (first | exact World.Since.refl _ _ | apply sDrewN | apply sDrew | apply sAlloc)) (Nat.le_refl _)) (HI.out.2.1.later (by repeat' (first | exact World.Since.refl _ _ | apply sDrewN | apply sDrew | apply sAlloc)) (Nat.le_refl _))).mono ?_; rintro e w' ⟨rfl, qd, rfl⟩))
                go_wp2
                go_roundg (g.n - (q + 1))
                case measure => go_light; omega
                case rel =>
                  go_light
                  refine (fun (hs : World.Since wr.heap.size wr _) => ⟨q + 1, by omega, rfl, by simp, sinceC HB.out.1 hs, HB.out.2.later hs⟩) ?_
                  repeat' (first | exact World.Since.refl _ _ | apply sDrewN | apply sDrew | apply sAlloc)
              · have hqz : ¬ (q : Int) < (g.n : Int) := by omega
                obtain rfl : q = g.n := by omega
                have hsA : w.Since w.heap.size wr ∧ Aft wr d m g k N E nb eb lb vb' pv ra rc rb (.slice xa d.n xc) (.slice fa e.n c6) (.bool (true || cl)) R l0 l rra rrc rrb pv := ⟨s0, hA⟩
                clear s0 hA
                go_wp2
                -- THE NEW RUNS
                go_loopg [22, 23] d.n (fun gg s22 s23 wi => ∃ i kk : Nat, i ≤ d.n ∧ gg = d.n - i ∧ s23 = .int .i64 (i : Int) ∧ s22 = .int .i64 (kk : Int) ∧ kk = g.n + (unl N d.n i).length ∧ w.Since w.heap.size wi ∧ Aft wi d m g k N E nb eb lb vb' pv ra rc rb (.slice xa d.n xc) (.slice fa e.n c6) (.bool (true || cl)) R l0 l rra rrc rrb pv)
                case atStart => exact ⟨0, g.n, Nat.zero_le _, rfl, rfl, rfl, by simp [unl], hsA.1, hsA.2⟩
                case round =>
                  clear hsA
                  obtain ⟨i, kk, hi, rfl, rfl, rfl, hkk, s0, hA⟩ := hrel
                  have HKK : Aside (kk = g.n + (unl N d.n i).length) := hkk
                  clear hkk
                  by_cases hin : i < d.n
                  · have hiz : (i : Int) < (d.n : Int) := by omega
                    have q1 := hA.led.cell hin
                    have HB : Aside (w.Since w.heap.size wr ∧ Aft wr d m g k N E nb eb lb vb' pv ra rc rb (.slice xa d.n xc) (.slice fa e.n c6) (.bool (true || cl)) R l0 l rra rrc rrb pv) := ⟨s0, hA⟩
                    cases hled : ledTo N d.n i with
                    | true =>
                      have Hu : Aside (unl N d.n (i + 1) = unl N d.n i) := unl_led hled
                      rw [hled] at q1
                      clear hled s0 hA
                      go_wp2
                      go_roundg (d.n - (i + 1))
                      case measure => go_light; omega
                      case rel => go_light; exact ⟨i + 1, kk, by omega, rfl, by simp, rfl, by rw [HKK.out, Hu.out], HB.out.1, HB.out.2⟩
                    | false =>
                      have Hu : Aside (unl N d.n (i + 1) = unl N d.n i ++ [i]) := unl_free hled
                      obtain ⟨S, hS1, hS⟩ := hA.new hin hled
                      rw [← HKK.out] at hS1
                      have hku : kk < g.n + nu := by
                        have h1 := (List.getElem?_eq_some_iff.1 (unl_at N d.n hin hled)).1
                        have := HKK.out
                        have := Hnu.out
                        omega
                      obtain ⟨gg, hoa, x0, x1, x2, x3⟩ := hA.run HRs.out hS1
                      subst hoa
                      clear hS1
                      have hkz : (kk : Int) < (g.n : Int) + (nu : Int) := by omega
                      rw [hled] at q1
                      clear hled
                      obtain rfl : va = some ⟨m.b, m.o, none⟩ := Hva.out.symm.trans (hA.vers.addr (by omega))
                      have hy : E i < d.n := by rw [← HE.out]; exact itr_lt HNlt.out _ i hin
                      have q2 := hA.ends.cell hin
                      obtain ⟨y, Hy⟩ : ∃ y, Aside (E i = y) := ⟨_, rfl⟩
                      rw [Hy.out] at hy q2 x2 hS
                      have hyz : (y : Int) < (d.n : Int) := by omega
                      have y0 := hA.vers.cw y hy
                      have y1 := hA.vers.ci i hin
                      have y2 := hA.vers.cr y hy
                      obtain ⟨am, HAm⟩ : ∃ am, Aside (m.ra y = am) := ⟨_, rfl⟩
                      rw [HAm.out] at y2
                      have hwi : IntKind.i32.wrap (i : Int) = (i : Int) := by rw [IntKind.wrap_i32]; omega
                      have hwy : IntKind.i32.wrap (y : Int) = (y : Int) := by rw [IntKind.wrap_i32]; omega
                      by_cases hrl : d.rl y = 0
                      · have HRL0 : Aside (d.rl y = 0) := hrl
                        have t1 : ((d.rl y : Int) == 0) = true := by simp [hrl]
                        by_cases hww : 0 ≤ d.wr y
                        · obtain ⟨sb, hSe, hsb⟩ : ∃ sb, S = .slice (some ⟨sb, 0, none⟩) 1 1 ∧ wr.cell? ⟨sb, 0, none⟩ = some (.int .i32 (d.wr y)) := by
                            rcases hS with h | ⟨_, _, sb, h3, _, _, h6⟩
                            · exact absurd ⟨hrl, hww⟩ h.1
                            · exact ⟨sb, h3, h6⟩
                          rw [hSe] at x3
                          have hz1 : (wr.alloc (.cells #[.int .i32 (d.wr y)] 21)).cell? ⟨sb, 0, none⟩ = some (.int .i32 (d.wr y)) := by
                            rw [World.cell?_of_block (w := wr) (Go.Deep.blk_alloc_lt _ _ _ (World.block_lt_of_cell? _ _ hsb))]; exact hsb
                          have hz2 : (wr.alloc (.cells #[.int .i32 (d.wr y)] 21)).cell? ⟨wr.heap.size, 0, none⟩ = some (.int .i32 (d.wr y)) := by simp
                          have HI : Aside (IntsAt .i32 (wr.alloc (.cells #[.int .i32 (d.wr y)] 21)) (some ⟨sb, 0, none⟩) 1 (fun _ => d.wr y) sb 0 ∧ IntsAt .i32 (wr.alloc (.cells #[.int .i32 (d.wr y)] 21)) (some ⟨wr.heap.size, 0, none⟩) 1 (fun _ => d.wr y) wr.heap.size 0 ∧ 1 ≤ 9223372036854775807) :=
                            ⟨⟨fun _ => rfl, fun j hj => by obtain rfl : j = 0 := by omega
                                                           exact hz1⟩, ⟨fun _ => rfl, fun j hj => by obtain rfl : j = 0 := by omega
                                                                                                     exact hz2⟩, by omega⟩
                          clear s0 hA hSe hS hrl hz1 hz2 hsb
                          go_wp2_with fail
                          go_region_held3 (fun w' => w'.cell? ⟨gg, kk * 4, none⟩ = some (.int .i32 (d.it i)) ∧ w'.cell? ⟨gg, kk * 4 + 1, none⟩ = some (.int .i32 (i : Int)) ∧ w'.cell? ⟨gg, kk * 4 + 2, none⟩ = some (.int .i32 (y : Int)) ∧ w'.cell? ⟨gg, kk * 4 + 3, none⟩ = some (.slice (some ⟨sb, 0, none⟩) 1 1) ∧ w'.cell? ⟨m.b, m.o + i * 4 + 1, none⟩ = some (.int .i32 (d.it i))) (simp (maxDischargeDepth := 12) [*, World.cell?_alloc_some]) (first | (go_at_call 26; refine (run26e _ _ _ HI.out.2.2 (HI.out.1.later (by repeat' (first | exact World.Since.refl _ _ | apply sDrewN | apply sDrew | apply sAlloc)) (Nat.le_refl _)) (HI.out.2.1.later (by repeat' (first | exact World.Since.refl _ _ | apply sDrewN | apply sDrew | apply sAlloc)) (Nat.le_refl _))).mono ?_; rintro e w' ⟨rfl, qd, rfl⟩))
                          go_wp2
                          go_roundg (d.n - (i + 1))
                          case measure => go_light; omega
                          case rel =>
                            go_light
                            refine (fun (hs : World.Since wr.heap.size wr _) => ⟨i + 1, kk + 1, by omega, rfl, by simp, by simp, by rw [HKK.out, Hu.out]; simp; omega, sinceC HB.out.1 hs, HB.out.2.later hs⟩) ?_
                            repeat' (first | exact World.Since.refl _ _ | apply sDrewN | apply sDrew | apply sAlloc)
                        · have hS2 : S = .slice (ra y) (d.rl y) (rc y) := by
                            rcases hS with h | h
                            · exact h.2
                            · exact absurd h.2.1 hww
                          have hww' : d.wr y < 0 := by omega
                          clear hS hrl
                          rw [hS2] at x3
                          obtain ⟨ar, HAr⟩ : ∃ ar, Aside (ra y = ar) := ⟨_, rfl⟩
                          rw [HAr.out] at x3
                          have HI : Aside (IntsAt .i32 wr ar (d.rl y) (d.r y) (rb y) 0 ∧ IntsAt .i32 wr am (d.rl y) (d.r y) (m.rb y) (m.ro y) ∧ d.rl y ≤ 9223372036854775807) := by
                            rw [← HAr.out, ← HAm.out]; exact ⟨hA.rd y hy, hA.vers.ints hy, hA.vers.bl y hy⟩
                          clear s0 hA hS2
                          go_wp2_with fail
                          go_region_held3 (fun w' => w'.cell? ⟨gg, kk * 4, none⟩ = some (.int .i32 (d.it i)) ∧ w'.cell? ⟨gg, kk * 4 + 1, none⟩ = some (.int .i32 (i : Int)) ∧ w'.cell? ⟨gg, kk * 4 + 2, none⟩ = some (.int .i32 (y : Int)) ∧ w'.cell? ⟨gg, kk * 4 + 3, none⟩ = some (.slice ar (d.rl y) (rc y)) ∧ w'.cell? ⟨m.b, m.o + i * 4 + 1, none⟩ = some (.int .i32 (d.it i))) (simp (maxDischargeDepth := 12) [*, World.cell?_alloc_some]) (first | (go_at_call 26; refine (run26e _ _ _ HI.out.2.2 (HI.out.1.later (by repeat' (first | exact World.Since.refl _ _ | apply sDrewN | apply sDrew | apply sAlloc)) (Nat.le_refl _)) (HI.out.2.1.later (by repeat' (first | exact World.Since.refl _ _ | apply sDrewN | apply sDrew | apply sAlloc)) (Nat.le_refl _))).mono ?_; rintro e w' ⟨rfl, qd, rfl⟩))
                          go_wp2
                          go_roundg (d.n - (i + 1))
                          case measure => go_light; omega
                          case rel =>
                            go_light
                            refine (fun (hs : World.Since wr.heap.size wr _) => ⟨i + 1, kk + 1, by omega, rfl, by simp, by simp, by rw [HKK.out, Hu.out]; simp; omega, sinceC HB.out.1 hs, HB.out.2.later hs⟩) ?_
                            repeat' (first | exact World.Since.refl _ _ | apply sDrewN | apply sDrew | apply sAlloc)
                      · have t1 : ((d.rl y : Int) == 0) = false := by simp; omega
                        have hS2 : S = .slice (ra y) (d.rl y) (rc y) := by
                          rcases hS with h | h
                          · exact h.2
                          · exact absurd h.1 hrl
                        clear hS hrl
                        rw [hS2] at x3
                        obtain ⟨ar, HAr⟩ : ∃ ar, Aside (ra y = ar) := ⟨_, rfl⟩
                        rw [HAr.out] at x3
                        have HI : Aside (IntsAt .i32 wr ar (d.rl y) (d.r y) (rb y) 0 ∧ IntsAt .i32 wr am (d.rl y) (d.r y) (m.rb y) (m.ro y) ∧ d.rl y ≤ 9223372036854775807) := by
                          rw [← HAr.out, ← HAm.out]; exact ⟨hA.rd y hy, hA.vers.ints hy, hA.vers.bl y hy⟩
                        clear s0 hA hS2
                        go_wp2_with fail
                        go_region_held3 (fun w' => w'.cell? ⟨gg, kk * 4, none⟩ = some (.int .i32 (d.it i)) ∧ w'.cell? ⟨gg, kk * 4 + 1, none⟩ = some (.int .i32 (i : Int)) ∧ w'.cell? ⟨gg, kk * 4 + 2, none⟩ = some (.int .i32 (y : Int)) ∧ w'.cell? ⟨gg, kk * 4 + 3, none⟩ = some (.slice ar (d.rl y) (rc y)) ∧ w'.cell? ⟨m.b, m.o + i * 4 + 1, none⟩ = some (.int .i32 (d.it i))) (simp (maxDischargeDepth := 12) [*, World.cell?_alloc_some]) (first | (go_at_call 26; refine (run26e _ _ _ HI.out.2.2 (HI.out.1.later (by repeat' (first | exact World.Since.refl _ _ | apply sDrewN | apply sDrew | apply sAlloc)) (Nat.le_refl _)) (HI.out.2.1.later (by repeat' (first | exact World.Since.refl _ _ | apply sDrewN | apply sDrew | apply sAlloc)) (Nat.le_refl _))).mono ?_; rintro e w' ⟨rfl, qd, rfl⟩))
                        go_wp2
                        go_roundg (d.n - (i + 1))
                        case measure => go_light; omega
                        case rel =>
                          go_light
                          refine (fun (hs : World.Since wr.heap.size wr _) => ⟨i + 1, kk + 1, by omega, rfl, by simp, by simp, by rw [HKK.out, Hu.out]; simp; omega, sinceC HB.out.1 hs, HB.out.2.later hs⟩) ?_
                          repeat' (first | exact World.Since.refl _ _ | apply sDrewN | apply sDrew | apply sAlloc)
                  · have hiz : ¬ (i : Int) < (d.n : Int) := by omega
                    go_wp2
                    go_ret
                    exact ⟨rfl, s0⟩

end Go.Proofs.Qxb6601390a
