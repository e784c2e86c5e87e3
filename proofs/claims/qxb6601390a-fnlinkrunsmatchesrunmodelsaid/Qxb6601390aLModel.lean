/-
  zzMatchCount_b1 (47), zzLedBy_b1 (12), zzChainEnds_b1 (11).
-/
import Derived.Test.Qxb6601390aLPlain
namespace Go.Proofs.Qxb6601390a
open Go.RowKit Plain

theorem drewN_since (w : World) (n : Nat) : w.Since w.heap.size (w.drewN n) := since_drewN (World.Since.refl _ _) n

theorem cnt2_snoc (p : List Nat) (v : Nat) : (p ++ [v]).length = p.length + 1 := by simp

set_option maxHeartbeats 1600000 in
set_option maxRecDepth 100000 in
theorem count47 {w : World} {d : Vd} {m : Vm} {e : Wd} {f : Wm} {c1 c2 : Nat} (hv : VersAt w d m) (hw : WritesAt w e f) (hD : DomV d e) {i : Nat} (hi : i < d.n) (hn : d.n ≤ 1048576) :
    Calls Try.prog 47 #[.slice m.a d.n c1, .slice f.a e.n c2, .int .i64 (i : Int)] w fun e' w' => e' = .returned (.int .i64 ((min 2 (mt d e i).length : Nat) : Int)) ∧ w.Since w.heap.size w' := by
  have b2 := hw.bN
  obtain ⟨va, Hva⟩ : ∃ va, Aside (m.a = va) := ⟨_, rfl⟩
  obtain ⟨wa, Hwa⟩ : ∃ wa, Aside (f.a = wa) := ⟨_, rfl⟩
  rw [Hva.out, Hwa.out]
  obtain rfl : va = some ⟨m.b, m.o, none⟩ := Hva.out.symm.trans (hv.addr (by omega))
  have hiz : (i : Int) < (d.n : Int) := by omega
  have q1 := hv.cr i hi
  have bl := hv.bl i hi
  obtain ⟨ar, HAr⟩ : ∃ ar, Aside (m.ra i = ar) := ⟨_, rfl⟩
  rw [HAr.out] at q1
  have HD : Aside (DomV d e) := hD
  have HV : Aside (VersAt w d m) := hv
  have HW : Aside (WritesAt w e f) := hw
  clear hD hv hw
  go_enter Try.func47, Try.ntmps47
  go_wp2
  clear q1
  go_loopg [7, 9] (d.rl i) (fun g s7 s9 wr => ∃ k : Nat, k ≤ d.rl i ∧ g = d.rl i - k ∧ s9 = .int .i64 (k : Int) ∧ s7 = .int .i64 ((mTo d e i k).length : Int) ∧ (mTo d e i k).length ≤ 1 ∧ w.Since w.heap.size wr)
  case atStart => exact ⟨0, Nat.zero_le _, rfl, rfl, rfl, by simp [mTo], World.Since.refl _ _⟩
  case round =>
    obtain ⟨k, hk, rfl, rfl, rfl, hle, hS⟩ := hrel
    by_cases hkl : k < d.rl i
    · have hkz : (k : Int) < (d.rl i : Int) := by omega
      obtain rfl : ar = some ⟨m.rb i, m.ro i, none⟩ := HAr.out.symm.trans (HV.out.ra i hi k hkl)
      obtain ⟨r1, r2⟩ := HD.out.r hi hkl
      obtain rfl : wa = some ⟨f.b, f.o, none⟩ := Hwa.out.symm.trans (HW.out.addr (by omega))
      obtain ⟨t, Ht⟩ : ∃ t, Aside (rrN d i k = t) := ⟨_, rfl⟩
      rw [Ht.out] at r1 r2
      have q2 := cell_later hS (Nat.le_refl _) (HV.out.rr i hi k hkl)
      rw [r1] at q2
      have q3 := cell_later hS (Nat.le_refl _) (HW.out.row t r2)
      have bt := HW.out.bl t r2
      obtain ⟨at', HAt⟩ : ∃ at', Aside (f.ra t = at') := ⟨_, rfl⟩
      rw [HAt.out] at q3
      have htz : (t : Int) < (e.n : Int) := by omega
      clear r1
      go_wp2
      clear q2 q3
      obtain ⟨p, Hp⟩ : ∃ p, Aside (mTo d e i k = p) := ⟨_, rfl⟩
      rw [Hp.out] at hle ⊢
      obtain ⟨wo, rfl⟩ : ∃ wo : World, wo = wr := ⟨_, rfl⟩
      go_loopg [7, 11] (e.l t) (fun g s7 s11 wi => ∃ j : Nat, j ≤ e.l t ∧ g = e.l t - j ∧ s11 = .int .i64 (j : Int) ∧ s7 = .int .i64 ((p ++ rowM d e i t j).length : Int) ∧ (p ++ rowM d e i t j).length ≤ 1 ∧ w.Since w.heap.size wi)
      case atStart => exact ⟨0, Nat.zero_le _, rfl, rfl, by simp [rowM], by simpa [rowM] using hle, hS⟩
      case round =>
        clear hS hle
        obtain ⟨j, hj, rfl, rfl, rfl, hle, hS⟩ := hrel
        by_cases hjl : j < e.l t
        · have hjz : (j : Int) < (e.l t : Int) := by omega
          obtain rfl : at' = some ⟨f.rb t, f.ro t, none⟩ := HAt.out.symm.trans (HW.out.ra t r2 j hjl)
          obtain ⟨v1, v2⟩ := HD.out.v hi hkl (j := j) (by rw [Ht.out]; exact hjl)
          rw [Ht.out] at v1 v2
          obtain ⟨v, Hv⟩ : ∃ v, Aside (vvN e t j = v) := ⟨_, rfl⟩
          rw [Hv.out] at v1 v2
          have q4 := cell_later hS (Nat.le_refl _) (HW.out.cv t r2 j hjl)
          rw [v1] at q4
          have q5 := cell_later hS (Nat.le_refl _) (HV.out.ci v v2)
          have q6 := cell_later hS (Nat.le_refl _) (HV.out.ci i hi)
          have hvz : (v : Int) < (d.n : Int) := by omega
          clear v1
          obtain ⟨u, Hu⟩ : ∃ u, Aside (p ++ rowM d e i t j = u) := ⟨_, rfl⟩
          rw [Hu.out] at hle ⊢
          by_cases hit : d.it v = d.it i
          · have hib : (d.it v == d.it i) = true := by simp [hit]
            have Hstep : Aside (p ++ rowM d e i t (j + 1) = u ++ [v]) := by
              show _ = _
              rw [rowM, Hv.out, if_pos hit, ← List.append_assoc, Hu.out]
            have Hit : Aside (d.it v = d.it i) := hit
            clear hit
            by_cases hu : u.length = 0
            · have hu1 : u.length ≤ 0 := by omega
              have HU : Aside (u.length = 0) := hu
              clear hu hle
              go_wp2
              go_quiet (fail)
              go_wp2
              go_roundg (e.l t - (j + 1))
              case measure => go_light; omega
              case rel =>
                go_light
                exact ⟨j + 1, by omega, rfl, by simp, by rw [Hstep.out]; simp, by rw [Hstep.out, cnt2_snoc]; have := HU.out; omega, sinceC hS (drewN_since _ _)⟩
            · have hu1 : 1 ≤ u.length := by omega
              have HF : Aside (min 2 (mt d e i).length = 2) := by
                obtain ⟨x, hx⟩ := mt_pre d e i hkl (j := j + 1) (by rw [Ht.out]; omega)
                rw [Ht.out, Hp.out, Hstep.out] at hx
                show _ = _
                rw [hx, List.length_append, cnt2_snoc]; omega
              go_wp2
              go_quiet (fail)
              go_wp2
              go_ret
              exact ⟨by rw [HF.out]; rfl, sinceC hS (drewN_since _ _)⟩
          · have hib : (d.it v == d.it i) = false := by simp [hit]
            have Hstep : Aside (p ++ rowM d e i t (j + 1) = u) := by
              show _ = _
              rw [rowM, Hv.out, if_neg hit, List.append_nil, Hu.out]
            clear hit
            go_wp2
            go_quiet (fail)
            go_wp2
            go_roundg (e.l t - (j + 1))
            case measure => go_light; omega
            case rel => go_light; exact ⟨j + 1, by omega, rfl, by simp, by rw [Hstep.out], by rw [Hstep.out]; exact hle, sinceC hS (drewN_since _ _)⟩
        · have hjz : ¬ (j : Int) < (e.l t : Int) := by omega
          obtain rfl : j = e.l t := by omega
          have Hstep : Aside (p ++ rowM d e i t (e.l t) = mTo d e i (k + 1)) := by show _ = _; rw [mTo, Hp.out, Ht.out]
          rw [Hstep.out] at hle ⊢
          go_wp2
          go_roundg (d.rl i - (k + 1))
          case measure => go_light; omega
          case rel => go_light; exact ⟨k + 1, by omega, rfl, by simp, rfl, hle, hS⟩
    · have hkz : ¬ (k : Int) < (d.rl i : Int) := by omega
      obtain rfl : k = d.rl i := by omega
      have HF : Aside (min 2 (mt d e i).length = (mTo d e i (d.rl i)).length) := by show min 2 (mTo d e i (d.rl i)).length = _; omega
      go_wp2
      go_ret
      exact ⟨by rw [HF.out]; rfl, hS⟩

theorem Try.info4 : (Try.prog.info? 4).map (fun i => (i.zero, i.size, i.bytes)) = some (some (.bool false), 1, 1) := by kernel_rfl

/-- WHAT zzLedBy_b1 LEAVES. -/
def LedMade (w w' : World) (e : Ending) (n : Nat) (N : Nat → Int) : Prop :=
  ∃ b, e = .returned (.slice (some ⟨b, 0, none⟩) n n) ∧ w.Since w.heap.size w' ∧ w'.rowIs b 4 n (fun j => .bool (ledTo N n j)) ∧ w.heap.size ≤ b

set_option maxHeartbeats 800000 in
theorem led12 {w : World} {a : Option Addr} {n c b o : Nat} {N : Nat → Int} (hA : IntsAt .i32 w a n N b o) (hn : n ≤ 1048576) (hN : ∀ i, i < n → N i < (n : Int)) :
    Calls Try.prog 12 #[.slice a n c] w fun e w' => LedMade w w' e n N := by
  have hmk := run_make_row' (P := Try.prog) 33 4 (.bool false) 1 Try.underlying33 Try.info4 rfl .i64 .i64 n (by omega) (by omega)
  have HN : Aside (∀ i, i < n → N i < (n : Int)) := hN
  clear hN
  go_enter Try.func12, Try.ntmps12
  go_wp2
  clear hmk
  go_loopg [4] n (fun g s4 wr => ∃ r : Nat, r ≤ n ∧ g = n - r ∧ s4 = .int .i64 (r : Int) ∧ w.Since w.heap.size wr ∧ wr.rowIs w.heap.size 4 n (fun j => .bool (ledTo N r j)))
  case atStart => exact ⟨0, Nat.zero_le _, rfl, rfl, (World.Since.refl _ _).alloc (Nat.le_refl _) _, (World.rowIs_made w (.bool false) n 4).congr (fun j _ => by simp [ledTo])⟩
  case round =>
    obtain ⟨r, hr, rfl, rfl, hS, hR⟩ := hrel
    by_cases hrn : r < n
    · have hrz : (r : Int) < (n : Int) := by omega
      obtain rfl := hA.addr (by omega)
      have q1 := cell_later hS (Nat.le_refl _) (hA.cell r hrn)
      have hlt := HN.out r hrn
      by_cases h0 : 0 ≤ N r
      · obtain ⟨q, hq⟩ : ∃ q : Nat, N r = q := ⟨(N r).toNat, by omega⟩
        rw [hq] at q1 hlt h0
        have HQ : Aside (N r = q) := hq
        clear hq
        have q2 := hR.cell (i := q) (by omega)
        have q3 := hR.frozen q
        have hb := World.block_lt_of_cell? _ _ (hA.cell r hrn)
        simp only at hb
        go_wp2
        go_roundg (n - (r + 1))
        case measure => go_light; omega
        case rel =>
          go_light
          refine ⟨r + 1, by omega, rfl, by simp, hS.setCell (Nat.le_refl _) _, (hR.set q _).congr (fun j _ => ?_)⟩
          rw [ledTo_succ, HQ.out]
          by_cases e : j = q
          · subst e; simp
          · rw [if_neg e]
            have e2 : ¬ ((q : Int) = (j : Int)) := by omega
            simp [e2]
      · go_wp2
        go_roundg (n - (r + 1))
        case measure => go_light; omega
        case rel =>
          go_light
          refine ⟨r + 1, by omega, rfl, by simp, hS, hR.congr (fun j _ => ?_)⟩
          rw [ledTo_succ]
          have e2 : ¬ (N r = (j : Int)) := by omega
          simp [e2]
    · have hrz : ¬ (r : Int) < (n : Int) := by omega
      obtain rfl : n = r := by omega
      go_wp2
      go_ret
      exact ⟨w.heap.size, rfl, hS, hR, Nat.le_refl _⟩

/-- WHAT zzChainEnds_b1 LEAVES. -/
def EndsMade (w w' : World) (e : Ending) (n : Nat) (N : Nat → Int) : Prop :=
  ∃ b s, e = .returned (.slice (some ⟨b, 0, none⟩) n n) ∧ w.Since w.heap.size w' ∧ IsLog n s ∧ w'.rowIs b 3 n (fun j => .int .i64 (itr (stepN N) (2 ^ (s + 1)) j : Int)) ∧ w.heap.size ≤ b

theorem two_itr (f : Nat → Nat) (r x : Nat) : itr f (2 ^ r) (itr f (2 ^ r) x) = itr f (2 ^ (r + 1)) x := by
  rw [← itr_add, Nat.pow_succ]; congr 1; omega

set_option maxHeartbeats 1600000 in
set_option maxRecDepth 100000 in
theorem ends11 {w : World} {a : Option Addr} {n c b o : Nat} {N : Nat → Int} (hA : IntsAt .i32 w a n N b o) (hn : n ≤ 1048576) (hN : ∀ i, i < n → N i < (n : Int)) (hNl : ∀ i, i < n → -2147483648 ≤ N i) :
    Calls Try.prog 11 #[.slice a n c] w fun e w' => EndsMade w w' e n N := by
  have hmk := run_make_row' (P := Try.prog) 31 3 (.int .i64 0) 8 Try.underlying31 Try.info3 rfl .i64 .i64 n (by omega) (by omega)
  have HN : Aside ((∀ i, i < n → N i < (n : Int)) ∧ ∀ i, i < n → -2147483648 ≤ N i) := ⟨hN, hNl⟩
  clear hN hNl
  go_enter Try.func11, Try.ntmps11
  go_wp2
  go_loopg [5] n (fun g s5 wr => ∃ r : Nat, r ≤ n ∧ g = n - r ∧ s5 = .int .i64 (r : Int) ∧ w.Since w.heap.size wr ∧ wr.rowIs w.heap.size 3 n (fun j => .int .i64 ((if j < r then stepN N j else 0 : Nat) : Int)) ∧ wr.heap.size = w.heap.size + 1)
  case atStart => exact ⟨0, Nat.zero_le _, rfl, rfl, (World.Since.refl _ _).alloc (Nat.le_refl _) _, (World.rowIs_made w (.int .i64 0) n 3).congr (fun j _ => by simp), by simp⟩
  case round =>
    obtain ⟨r, hr, rfl, rfl, hS, hR, hz⟩ := hrel
    by_cases hrn : r < n
    · have hrz : (r : Int) < (n : Int) := by omega
      obtain rfl := hA.addr (by omega)
      have q1 := cell_later hS (Nat.le_refl _) (hA.cell r hrn)
      have hlt := HN.out.1 r hrn
      have hlo := HN.out.2 r hrn
      have q2 := hR.cell hrn
      have q3 := hR.frozen r
      have hb := World.block_lt_of_cell? _ _ (hA.cell r hrn)
      simp only at hb
      have HZ : Aside (wr.heap.size = w.heap.size + 1) := hz
      clear hz hmk
      by_cases h0 : 0 ≤ N r
      · obtain ⟨q, hq⟩ : ∃ q : Nat, N r = q := ⟨(N r).toNat, by omega⟩
        rw [hq] at q1 hlt h0 hlo
        have HQ : Aside (stepN N r = q) := by show _ = _; simp only [stepN]; rw [if_pos (by omega)]; omega
        clear hq
        go_wp2
        go_roundg (n - (r + 1))
        case measure => go_light; omega
        case rel =>
          go_light
          refine ⟨r + 1, by omega, rfl, by simp, hS.setCell (Nat.le_refl _) _, (hR.set r _).congr (fun j _ => ?_), by simpa using HZ.out⟩
          by_cases e : j = r
          · subst e; simp [HQ.out]
          · rw [if_neg e]
            by_cases h : j < r
            · rw [if_pos h, if_pos (by omega)]
            · rw [if_neg h, if_neg (by omega)]
      · have HQ : Aside (stepN N r = r) := stepN_stop (by omega)
        go_wp2
        go_roundg (n - (r + 1))
        case measure => go_light; omega
        case rel =>
          go_light
          refine ⟨r + 1, by omega, rfl, by simp, hS.setCell (Nat.le_refl _) _, (hR.set r _).congr (fun j _ => ?_), by simpa using HZ.out⟩
          by_cases e : j = r
          · subst e; simp [HQ.out]
          · rw [if_neg e]
            by_cases h : j < r
            · rw [if_pos h, if_pos (by omega)]
            · rw [if_neg h, if_neg (by omega)]
    · have hrz : ¬ (r : Int) < (n : Int) := by omega
      obtain rfl : n = r := by omega
      have HR : Aside (w.Since w.heap.size wr ∧ wr.rowIs w.heap.size 3 n (fun j => .int .i64 ((stepN N j : Nat) : Int)) ∧ wr.heap.size = w.heap.size + 1) := ⟨hS, hR.congr (fun j hj => by rw [if_pos hj]), hz⟩
      clear hS hR hz
      obtain ⟨wo, rfl⟩ : ∃ wo : World, wo = wr := ⟨_, rfl⟩
      go_wp2
      go_loopg [6, 7] (n - 1) (fun g s6 s7 wi => wi = wo ∧ ∃ (s sp : Nat), sp = 2 ^ s ∧ s < sp ∧ sp ≤ 2 * n + 1 ∧ g = n - sp ∧ s6 = .int .i64 ((s : Int) + 1) ∧ s7 = .int .i64 (sp : Int) ∧ ∀ t, t < s → 2 ^ t < n)
      case atStart => exact ⟨rfl, 0, 1, rfl, by omega, by omega, rfl, rfl, rfl, fun t ht => absurd ht (Nat.not_lt_zero _)⟩
      case round =>
        obtain ⟨rfl, s, sp, hsp, hs1, hs2, rfl, rfl, rfl, hlog⟩ := hrel
        have HL : Aside (sp = 2 ^ s ∧ ∀ t, t < s → 2 ^ t < n) := ⟨hsp, hlog⟩
        clear hsp hlog
        by_cases hspn : sp < n
        · have hspz : (sp : Int) < (n : Int) := by omega
          clear hmk
          go_wp2
          go_roundg (n - 2 * sp)
          case measure => go_light; omega
          case rel =>
            go_light
            refine ⟨rfl, s + 1, 2 * sp, by rw [HL.out.1, Nat.pow_succ]; omega, by omega, by omega, rfl, by simp, by simp, fun t ht => ?_⟩
            by_cases e : t = s
            · subst e; rw [← HL.out.1]; exact hspn
            · exact HL.out.2 t (by omega)
        · have hspz : ¬ (sp : Int) < (n : Int) := by omega
          have hlog : IsLog n s := ⟨by rw [← HL.out.1]; omega, HL.out.2⟩
          have HLOG : Aside (IsLog n s) := hlog
          obtain ⟨hS, hR, hz⟩ := HR.out
          have hsize := hz
          have hO : SortAt w (wr.alloc (.cells (madeCells #[.int .i64 0] n) 3)) n w.heap.size (w.heap.size + 1) (stepN N) (fun _ => 0) := by
            have r2 := World.rowIs_made wr (.int .i64 0) n 3
            rw [hz] at r2
            exact ⟨hS.alloc hS.size _, hR.alloc _, r2.congr (fun q _ => by simp), Nat.le_refl _, by omega, by omega, fun q hq => stepN_lt HN.out.1 hq, fun q hq => by show 0 < n; omega⟩
          clear hlog HR hS hR hz
          go_wp2
          clear hmk hsize
          go_loopg [4, 8, 9] (s + 1) (fun g s4 s8 s9 wi => ∃ (bx bz r : Nat) (X Y : Nat → Nat), r ≤ s + 1 ∧ g = s + 1 - r ∧ s4 = .slice (some ⟨bx, 0, none⟩) n n ∧ s8 = .slice (some ⟨bz, 0, none⟩) n n ∧ s9 = .int .i64 (r : Int) ∧ SortAt w wi n bx bz X Y ∧ ∀ q, q < n → X q = itr (stepN N) (2 ^ r) q)
          case atStart => exact ⟨w.heap.size, w.heap.size + 1, 0, stepN N, fun _ => 0, Nat.zero_le _, rfl, rfl, rfl, rfl, hO, fun q _ => rfl⟩
          case round =>
            obtain ⟨bx, bz, r, X, Y, hr, rfl, rfl, rfl, rfl, hS, hX⟩ := hrel
            clear hO
            have HX : Aside (∀ q, q < n → X q = itr (stepN N) (2 ^ r) q) := hX
            clear hX
            by_cases hrs : r < s + 1
            · have hrz : (r : Int) < (s : Int) + 1 := by omega
              go_wp2
              go_loopg [10] n (fun g s10 wi => ∃ (i : Nat) (Y : Nat → Nat), i ≤ n ∧ g = n - i ∧ s10 = .int .i64 (i : Int) ∧ SortAt w wi n bx bz X Y ∧ ∀ q, q < i → Y q = X (X q))
              case atStart => exact ⟨0, Y, Nat.zero_le _, rfl, rfl, hS, fun q hq => absurd hq (Nat.not_lt_zero _)⟩
              case round =>
                clear hS
                obtain ⟨i, Y, hi, rfl, rfl, hS, hY⟩ := hrel
                have HY : Aside (∀ q, q < i → Y q = X (X q)) := hY
                clear hY
                by_cases hin : i < n
                · have hiz : (i : Int) < (n : Int) := by omega
                  have o1 := hS.ox i hin
                  have o2 := hS.ox (X i) o1
                  have o1z : ((X i : Nat) : Int) < (n : Int) := by omega
                  have q1 := hS.rx.cell hin
                  have q2 := hS.rx.cell o1
                  have q3 := hS.ry.cell hin
                  have q4 := hS.ry.frozen i
                  have hST := hS.setY i (X (X i)) o2
                  clear hS
                  go_wp2
                  go_roundg (n - (i + 1))
                  case measure => go_light; omega
                  case rel =>
                    go_light
                    refine ⟨i + 1, _, by omega, rfl, by simp, hST, fun q hq => ?_⟩
                    by_cases e : q = i
                    · subst e; simp
                    · simp only [if_neg e]; exact HY.out q (by omega)
                · have hiz : ¬ (i : Int) < (n : Int) := by omega
                  go_wp2
                  go_roundg (s + 1 - (r + 1))
                  case measure => go_light; omega
                  case rel =>
                    go_light
                    refine ⟨bz, bx, r + 1, Y, X, by omega, rfl, rfl, rfl, by simp, hS.swap, fun q hq => ?_⟩
                    have o1 := hS.ox q hq
                    rw [HY.out q (by omega), HX.out (X q) o1, HX.out q hq, two_itr]
            · have hrz : ¬ (r : Int) < (s : Int) + 1 := by omega
              obtain rfl : r = s + 1 := by omega
              go_wp2
              go_ret
              exact ⟨bx, s, rfl, hS.since, HLOG.out, hS.rx.congr (fun q hq => by rw [HX.out q hq]), hS.hx⟩
end Go.Proofs.Qxb6601390a
