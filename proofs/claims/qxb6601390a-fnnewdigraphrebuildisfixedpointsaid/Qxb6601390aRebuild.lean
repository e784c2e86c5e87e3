/-
  FnNewDigraphRebuildIsFixedPoint (6): the law's walk.
-/
import Derived.Test.Qxb6601390aReb
namespace Go.Proofs.Qxb6601390a
open Go.RowKit Plain

set_option maxHeartbeats 3200000 in
set_option maxRecDepth 100000 in
theorem law6 (n0 : Int) {w : World} {ga : Option Addr} {G Gc : Nat} {A : Nat → Option Addr} {L C RB RO : Nat → Nat} {T H I : Nat → Nat → Int} {gb go : Nat}
    (g : GridAt w ga G A L C RB RO T H I gb go) :
    Calls Try.prog 6 #[.int .i64 n0, .slice ga G Gc] w fun e w' => e = .returned (.bool true) ∧ w.Since w.heap.size w' := by
  have HG : Aside (GridAt w ga G A L C RB RO T H I gb go) := g
  clear g
  go_enter Try.func6, Try.ntmps6
  go_wp2_with fail
  refine (bytes45 n0 HG.out).mono ?_
  rintro e w1 ⟨⟨b, rfl, -⟩, rfl⟩
  cases b
  · go_wp2
    go_ret
    exact ⟨rfl, World.Since.refl _ _⟩
  go_wp2_with fail
  refine (fit36 HG.out).mono ?_
  rintro e w2 ⟨⟨b, rfl, hfit⟩, rfl⟩
  cases b
  · clear hfit
    go_wp2
    go_ret
    exact ⟨rfl, World.Since.refl _ _⟩
  have HFIT : Aside (FitOK G L) := hfit rfl
  clear hfit
  go_wp2_with fail
  refine (domain37 n0 HG.out).mono ?_
  rintro e w3 ⟨⟨b, rfl, hdom⟩, rfl⟩
  cases b
  · clear hdom
    go_wp2
    go_ret
    exact ⟨rfl, World.Since.refl _ _⟩
  have hdom1 := hdom rfl
  obtain ⟨n, rfl⟩ : ∃ n : Nat, n0 = n := ⟨n0.toNat, by have := hdom1.1; omega⟩
  have hn1 : n ≤ 65536 := by have := hdom1.2.1; omega
  have HD : Aside (DomOK n G L T) := hdom1
  clear hdom hdom1
  go_wp2_with fail
  refine (arcs39_any HG.out HFIT.out.size).mono ?_
  rintro e w4 ⟨pb, ga', A', C', RB', RO', gb', go', rfl, hp, g4, s4⟩
  go_wp2_with fail
  refine (dig38 hp g4 HFIT.out.size HD.out).mono ?_
  rintro e w5 ⟨sb, hb, ib, rfl, s5, hd, h1, h2, h3⟩
  obtain ⟨all, HALL⟩ : ∃ all, Aside (flatTo L T H I G = all) := ⟨_, rfl⟩
  have hlen : all.length = sumTo L G := by rw [← HALL.out, length_flatTo]
  have hlen2 : all.length ≤ 1048576 := by have := HFIT.out.size.2; omega
  have HIN : Aside (InR all n) := by rw [← HALL.out]; exact flatTo_inR L T H I HD.out.2.2
  have s05 := since_chain s4 s5
  rw [HALL.out] at hd ⊢
  have HDG : Aside (DigAt w5 n all sb hb ib) := hd
  obtain ⟨m, Hm⟩ : ∃ m, Aside (all.length = m) := ⟨_, rfl⟩
  rw [Hm.out] at hlen2
  unfold digV
  rw [Hm.out]
  clear hlen g4 hp s4 s5 h1 h2 h3 hd
  go_wp2_with fail
  refine (start40 _ _ _ _ _ _ _ rfl).mono ?_
  rintro e w6 ⟨rfl, s6⟩
  have r6 : w6.rowIs w5.heap.size 72 3 (dCell (.slice (some ⟨sb, 0, none⟩) (n + 1) (n + 1)) (.slice (some ⟨hb, 0, none⟩) m m) (.slice (some ⟨ib, 0, none⟩) m m)) := rowIs_later (World.rowIs_alloc w5 #[.slice (some ⟨sb, 0, none⟩) (n + 1) (n + 1), .slice (some ⟨hb, 0, none⟩) m m, .slice (some ⟨ib, 0, none⟩) m m] 72 _ (fun i hi => by
    have : i = 0 ∨ i = 1 ∨ i = 2 := by simp at hi; omega
    rcases this with rfl | rfl | rfl <;> rfl)) s6 (Nat.le_refl _)
  have s06 := since_chain (s05.alloc s05.size _) s6
  have HDG6 : Aside (DigAt w6 n all sb hb ib) := ⟨rowIs_later (HDG.out.start.alloc _) s6 (Nat.le_refl _), rowIs_later (HDG.out.heads.alloc _) s6 (Nat.le_refl _), rowIs_later (HDG.out.items.alloc _) s6 (Nat.le_refl _)⟩
  have c0 : w6.cell? ⟨w5.heap.size, 0, none⟩ = some (.slice (some ⟨sb, 0, none⟩) (n + 1) (n + 1)) := r6.cell (i := 0) (by omega)
  have c1 : w6.cell? ⟨w5.heap.size, 1, none⟩ = some (.slice (some ⟨hb, 0, none⟩) m m) := r6.cell (i := 1) (by omega)
  have c2 : w6.cell? ⟨w5.heap.size, 2, none⟩ = some (.slice (some ⟨ib, 0, none⟩) m m) := r6.cell (i := 2) (by omega)
  clear HDG s6 s05
  go_wp2_with fail
  refine (heads41 _ _ _ _ _ _ _ rfl).mono ?_
  rintro e w7 ⟨rfl, s7⟩
  have r7 := rowIs_later r6 s7 (Nat.le_refl _)
  have HDG7 : Aside (DigAt w7 n all sb hb ib) := ⟨rowIs_later HDG6.out.start s7 (Nat.le_refl _), rowIs_later HDG6.out.heads s7 (Nat.le_refl _), rowIs_later HDG6.out.items s7 (Nat.le_refl _)⟩
  have s07 := since_chain s06 s7
  clear r6 c0 c1 c2 s7 s06 HDG6
  have c0 : w7.cell? ⟨w5.heap.size, 0, none⟩ = some (.slice (some ⟨sb, 0, none⟩) (n + 1) (n + 1)) := r7.cell (i := 0) (by omega)
  have c1 : w7.cell? ⟨w5.heap.size, 1, none⟩ = some (.slice (some ⟨hb, 0, none⟩) m m) := r7.cell (i := 1) (by omega)
  have c2 : w7.cell? ⟨w5.heap.size, 2, none⟩ = some (.slice (some ⟨ib, 0, none⟩) m m) := r7.cell (i := 2) (by omega)
  go_wp2_with fail
  refine (items42 _ _ _ _ _ _ _ rfl).mono ?_
  rintro e w8 ⟨rfl, s8⟩
  have HDG8 : Aside (DigAt w8 n all sb hb ib) := ⟨rowIs_later HDG7.out.start s8 (Nat.le_refl _), rowIs_later HDG7.out.heads s8 (Nat.le_refl _), rowIs_later HDG7.out.items s8 (Nat.le_refl _)⟩
  have s08 := since_chain s07 s8
  clear r7 c0 c1 c2 s8 s07 HDG7
  have hcn : cum all n = m := by rw [cum_all all n HIN.out]; exact Hm.out
  have HCN : Aside (cum all n = m) := hcn
  have t1 : (((n + 1 : Nat) : Int) != (n : Int) + 1) = false := by simp
  have t2 : ((m : Int) != (m : Int)) = false := by simp
  have k0 : w8.cell? ⟨sb, 0, none⟩ = some (.int .i64 0) := HDG8.out.start.cell (i := 0) (by omega)
  have k1 : w8.cell? ⟨sb, n, none⟩ = some (.int .i64 (m : Int)) := by rw [HDG8.out.start.cell (i := n) (by omega), hcn]
  clear hcn
  go_wp2
  clear t1 t2 k0 k1
  go_loopg [9] n (fun k i wr => ∃ v : Nat, v ≤ n ∧ k = n - v ∧ i = .int .i64 v ∧ ∃ nd, wr = w8.drewN nd)
  case atStart => exact ⟨0, Nat.zero_le _, rfl, rfl, 0, rfl⟩
  case round =>
    obtain ⟨v, hv, rfl, rfl, nd, rfl⟩ := hrel
    by_cases hvn : v < n
    · have hvz : (v : Int) < (n : Int) := by omega
      have k1 := HDG8.out.start.cell (i := v) (by omega)
      have k2 := HDG8.out.start.cell (i := v + 1) (by omega)
      have hc1 : cum all v ≤ cum all (v + 1) := cum_mono all (by omega)
      have t1 : ¬ ((cum all (v + 1) : Int) < (cum all v : Int)) := by omega
      go_wp2
      go_quiet (fail)
      go_wp2
      go_roundg (n - (v + 1))
      case measure => go_light; omega
      case rel => go_light; exact ⟨v + 1, by omega, rfl, by simp, _, rfl⟩
    · have hvz : ¬ (v : Int) < (n : Int) := by omega
      obtain rfl : n = v := by omega
      have hmk := run_make_row' (P := Try.prog) 68 80 (.slice none 0 0) 24 Try.underlying68 Try.info80 rfl .i64 .i64 n (by omega) (by omega)
      have HDG9 : Aside (DigAt (w8.drewN nd) n all sb hb ib) := ⟨HDG8.out.start, HDG8.out.heads, HDG8.out.items⟩
      have s09 := since_drewN s08 nd
      clear HDG8 s08
      obtain ⟨w9, hw9⟩ : ∃ w9 : World, w8.drewN nd = w9 := ⟨_, rfl⟩
      rw [hw9] at HDG9 s09 ⊢
      clear hw9
      go_wp2
      clear hmk
      go_loopg [11] n (fun k i wr => ∃ (v : Nat) (f : Nat → Nat), v ≤ n ∧ k = n - v ∧ i = .int .i64 v ∧ ReOut w9 wr n (fun _ => some ⟨0, 0, none⟩) (cnt all) reT (reH all n) (reI all n) f v)
      case atStart => exact ⟨0, fun _ => 0, Nat.zero_le _, rfl, rfl, reOut_start w9 n _ _ _ _ _ _⟩
      case round =>
        obtain ⟨v, f, hv, rfl, rfl, hO⟩ := hrel
        by_cases hvn : v < n
        · have hvz : (v : Int) < (n : Int) := by omega
          obtain ⟨cv, Hcv⟩ : ∃ cv, Aside (cum all v = cv) := ⟨_, rfl⟩
          obtain ⟨cn, Hcn⟩ : ∃ cn, Aside (cnt all v = cn) := ⟨_, rfl⟩
          have hcs : cum all (v + 1) = cv + cn := by rw [← Hcv.out, ← Hcn.out]; rfl
          have hcm : cv + cn ≤ m := by rw [← hcs, ← HCN.out]; exact cum_mono all (by omega)
          have r1 := rowIs_later HDG9.out.start hO.since (Nat.le_refl _)
          have k1 : wr.cell? ⟨sb, v, none⟩ = some (.int .i64 (cv : Int)) := by rw [r1.cell (i := v) (by omega), Hcv.out]
          have k2 : wr.cell? ⟨sb, v + 1, none⟩ = some (.int .i64 ((cv : Int) + (cn : Int))) := by rw [r1.cell (i := v + 1) (by omega), hcs]; simp
          have HCS : Aside (cum all (v + 1) = cv + cn) := hcs
          clear hcs r1
          have hmk := run_make82 cn (by omega)
          have e1 : (cv : Int) + (cn : Int) - (cv : Int) = (cn : Int) := by omega
          have hsb := World.block_lt_of_cell? _ _ k1
          simp only at hsb
          go_wp2
          go_region
          clear hmk
          go_wp2
          have hI0 := (reIn_start wr cn (reT v) (reH all n v) (reI all n v)).drew
          clear k1 k2
          obtain ⟨wo, rfl⟩ : ∃ wo : World, wo = wr := ⟨_, rfl⟩
          go_loopg [13] cn (fun g s13 wi => ∃ c : Nat, c ≤ cn ∧ g = cn - c ∧ s13 = .int .i64 ((cv : Int) + (c : Int)) ∧ ReIn wo wi cn (reT v) (reH all n v) (reI all n v) c)
          case atStart => exact ⟨0, Nat.zero_le _, rfl, by simp, hI0⟩
          case round =>
            clear hI0
            obtain ⟨c, hc, rfl, rfl, hI⟩ := hrel
            have sO := since_chain hO.since ⟨hI.since.os, hI.since.tape, hI.since.output, hI.since.size, hI.since.block⟩
            have r1 := rowIs_later HDG9.out.start sO (Nat.le_refl _)
            have k1 : wr.cell? ⟨sb, v, none⟩ = some (.int .i64 (cv : Int)) := by rw [r1.cell (i := v) (by omega), Hcv.out]
            have k2 : wr.cell? ⟨sb, v + 1, none⟩ = some (.int .i64 ((cv : Int) + (cn : Int))) := by rw [r1.cell (i := v + 1) (by omega), HCS.out]; simp
            clear r1
            by_cases hcn : c < cn
            · have hcz : (cv : Int) + (c : Int) < (cv : Int) + (cn : Int) := by omega
              have hcz2 : (c : Int) < (cn : Int) := by omega
              have e2 : (cv : Int) + (c : Int) - (cv : Int) = (c : Int) := by omega
              have r2 := rowIs_later HDG9.out.heads sO (Nat.le_refl _)
              have r3 := rowIs_later HDG9.out.items sO (Nat.le_refl _)
              have k3 : wr.cell? ⟨hb, cv + c, none⟩ = some (.int .i32 (reH all n v c)) := by rw [r2.cell (i := cv + c) (by rw [Hm.out]; omega), reH, Hcv.out]
              have k4 : wr.cell? ⟨ib, cv + c, none⟩ = some (.int .i32 (reI all n v c)) := by rw [r3.cell (i := cv + c) (by rw [Hm.out]; omega), reI, Hcv.out]
              have hmz : (cv : Int) + (c : Int) < (m : Int) := by omega
              have b1 := HDG9.out.heads.lt
              have b2 := HDG9.out.items.lt
              have b3 := HDG9.out.start.lt
              have b4 := hO.list.lt
              have n1 : ¬ wo.heap.size = hb := by omega
              have n2 : ¬ wo.heap.size = ib := by omega
              have n3 : ¬ wo.heap.size = sb := by omega
              have d0 : wr.cell? ⟨wo.heap.size, c * 3, none⟩ = some (.int .i32 0) := reIn_cell hI 0 (by omega) hcn
              have d1 : wr.cell? ⟨wo.heap.size, c * 3 + 1, none⟩ = some (.int .i32 0) := reIn_cell hI 1 (by omega) hcn
              have d2 : wr.cell? ⟨wo.heap.size, c * 3 + 2, none⟩ = some (.int .i32 0) := reIn_cell hI 2 (by omega) hcn
              have f0 := hI.row.frozen (c * 3)
              have f1 := hI.row.frozen (c * 3 + 1)
              have f2 := hI.row.frozen (c * 3 + 2)
              clear r2 r3 b1 b2 b3 b4 sO hO
              go_wp2
              go_region
              go_wp2
              go_roundg (cn - (c + 1))
              case measure => go_light; omega
              case rel =>
                go_light
                exact ⟨c + 1, by omega, rfl, congrArg (Value.int .i64) (by omega), reIn_step' hI _ rfl⟩
            · have hcz : ¬ (cv : Int) + (c : Int) < (cv : Int) + (cn : Int) := by omega
              obtain rfl : cn = c := by omega
              have hN : w9.heap.size < wo.heap.size := hO.list.lt
              have d0 : wr.cell? ⟨w9.heap.size, v, none⟩ = some (listCell (fun _ => some ⟨0, 0, none⟩) (cnt all) f v v) := by rw [hI.since.cell (by exact hN)]; exact hO.list.cell hvn
              have d1 : listCell (fun _ => some ⟨0, 0, none⟩) (cnt all) f v v = .slice none 0 0 := by simp [listCell]
              rw [d1] at d0
              have f0 : wr.frozen? ⟨w9.heap.size, v, none⟩ = false := by rw [hI.since.frozen (by exact hN)]; exact hO.list.frozen v
              have hI' : ReIn wo wr (cnt all v) (reT v) (reH all n v) (reI all n v) (cnt all v) := by rw [Hcn.out]; exact hI
              have Hstep := reOut_step hO hI' rfl
              rw [Hcn.out] at Hstep
              clear hO d1 sO hI hI'
              go_wp2
              go_roundg (n - (v + 1))
              case measure => go_light; omega
              case rel => go_light; exact ⟨v + 1, _, by omega, rfl, by simp, Hstep⟩
        · have hvz : ¬ (v : Int) < (n : Int) := by omega
          obtain rfl : n = v := by omega
          have hsum : sumTo (cnt all) n = m := by rw [re_sum]; exact HCN.out
          have g9 := re_grid hO (fun r c hr _ => by show -2147483648 ≤ (r : Int) ∧ (r : Int) ≤ 2147483647; omega) (fun r hr => by have := sumTo_one (cnt all) hr; omega) hn1
          have sz9 : SizeOK n (cnt all) := ⟨by omega, by omega⟩
          have dm9 : DomOK n n (cnt all) reT := ⟨by omega, by omega, fun r c hr _ => by show 0 ≤ (r : Int) ∧ (r : Int) < (n : Int); omega⟩
          have s10 := since_chain s09 hO.since
          have HDG10 : Aside (DigAt wr n all sb hb ib) := ⟨rowIs_later HDG9.out.start hO.since (Nat.le_refl _), rowIs_later HDG9.out.heads hO.since (Nat.le_refl _), rowIs_later HDG9.out.items hO.since (Nat.le_refl _)⟩
          clear hO s09 HDG9 hsum
          go_wp2_with fail
          refine (arcs39_any g9 sz9).mono ?_
          rintro e w11 ⟨pb2, ga2, A2, C2, RB2, RO2, gb2, go2, rfl, hp2, g11, s11⟩
          go_wp2_with fail
          refine (dig38 hp2 g11 sz9 dm9).mono ?_
          rintro e w12 ⟨sb2, hb2, ib2, rfl, s12, hd2, -, -, -⟩
          rw [re_flat all n (Nat.le_refl _)] at hd2 ⊢
          have hl2 : (bucket all n).length = m := by rw [length_bucket]; exact HCN.out
          have s112 := since_chain s11 s12
          have s012 := since_chain s10 s112
          have HDG12 : Aside (DigAt w12 n all sb hb ib) := ⟨rowIs_later HDG10.out.start s112 (Nat.le_refl _), rowIs_later HDG10.out.heads s112 (Nat.le_refl _), rowIs_later HDG10.out.items s112 (Nat.le_refl _)⟩
          have q1 : w12.rowIs sb2 3 (n + 1) (fun v => .int .i64 (cum all v)) := hd2.start.congr (fun v hv => by rw [cum_bucket all n (by omega)])
          have q2 : w12.rowIs hb2 21 m (fun q => .int .i32 (headAt all n q)) := by have := hd2.heads.congr (g := fun q => .int .i32 (headAt all n q)) (fun q _ => by rw [re_head]); rwa [hl2] at this
          have q3 : w12.rowIs ib2 21 m (fun q => .int .i32 (itemAt all n q)) := by have := hd2.items.congr (g := fun q => .int .i32 (itemAt all n q)) (fun q _ => by rw [re_item]); rwa [hl2] at this
          unfold digV
          rw [hl2]
          clear hd2 g11 hp2 g9 s11 s12 s112 s10 HDG10 sz9 dm9 hl2
          go_wp2_with fail
          refine (start40 _ _ _ _ _ _ _ rfl).mono ?_
          rintro e w13 ⟨rfl, s13⟩
          have r13 : w13.rowIs w12.heap.size 72 3 (dCell (.slice (some ⟨sb2, 0, none⟩) (n + 1) (n + 1)) (.slice (some ⟨hb2, 0, none⟩) m m) (.slice (some ⟨ib2, 0, none⟩) m m)) := rowIs_later (World.rowIs_alloc w12 #[.slice (some ⟨sb2, 0, none⟩) (n + 1) (n + 1), .slice (some ⟨hb2, 0, none⟩) m m, .slice (some ⟨ib2, 0, none⟩) m m] 72 _ (fun i hi => by
            have : i = 0 ∨ i = 1 ∨ i = 2 := by simp at hi; omega
            rcases this with rfl | rfl | rfl <;> rfl)) s13 (Nat.le_refl _)
          have s1 := since_chain ((World.Since.refl w12.heap.size w12).alloc (Nat.le_refl _) _) s13
          have s013 := since_chain s012 s1
          have HDG13 : Aside (DigAt w13 n all sb hb ib) := ⟨rowIs_later HDG12.out.start s1 (Nat.le_refl _), rowIs_later HDG12.out.heads s1 (Nat.le_refl _), rowIs_later HDG12.out.items s1 (Nat.le_refl _)⟩
          have HQ13 : Aside (w13.rowIs sb2 3 (n + 1) (fun v => .int .i64 (cum all v)) ∧ w13.rowIs hb2 21 m (fun q => .int .i32 (headAt all n q)) ∧ w13.rowIs ib2 21 m (fun q => .int .i32 (itemAt all n q))) := ⟨rowIs_later q1 s1 (Nat.le_refl _), rowIs_later q2 s1 (Nat.le_refl _), rowIs_later q3 s1 (Nat.le_refl _)⟩
          clear s13 s1 s012 HDG12 q1 q2 q3
          go_wp2_with fail
          refine (equal46 (by omega) (IntsAt.ofRow (X := fun v => (cum all v : Int)) HQ13.out.1) (IntsAt.ofRow (X := fun v => (cum all v : Int)) HDG13.out.start)).mono ?_
          rintro e w14 ⟨rfl, s14⟩
          have r14 := rowIs_later r13 s14 (Nat.le_refl _)
          have s014 := since_chain s013 s14
          have HDG14 : Aside (DigAt w14 n all sb hb ib) := ⟨rowIs_later HDG13.out.start s14 (Nat.le_refl _), rowIs_later HDG13.out.heads s14 (Nat.le_refl _), rowIs_later HDG13.out.items s14 (Nat.le_refl _)⟩
          have HQ14 : Aside (w14.rowIs hb2 21 m (fun q => .int .i32 (headAt all n q)) ∧ w14.rowIs ib2 21 m (fun q => .int .i32 (itemAt all n q))) := ⟨rowIs_later HQ13.out.2.1 s14 (Nat.le_refl _), rowIs_later HQ13.out.2.2 s14 (Nat.le_refl _)⟩
          have c0 : w14.cell? ⟨w12.heap.size, 0, none⟩ = some (.slice (some ⟨sb2, 0, none⟩) (n + 1) (n + 1)) := r14.cell (i := 0) (by omega)
          have c1 : w14.cell? ⟨w12.heap.size, 1, none⟩ = some (.slice (some ⟨hb2, 0, none⟩) m m) := r14.cell (i := 1) (by omega)
          have c2 : w14.cell? ⟨w12.heap.size, 2, none⟩ = some (.slice (some ⟨ib2, 0, none⟩) m m) := r14.cell (i := 2) (by omega)
          clear r13 s14 s013 HDG13 HQ13
          go_wp2_with fail
          refine (heads41 _ _ _ _ _ _ _ rfl).mono ?_
          rintro e w15 ⟨rfl, s15⟩
          have r15 := rowIs_later r14 s15 (Nat.le_refl _)
          have s015 := since_chain s014 s15
          have HDG15 : Aside (DigAt w15 n all sb hb ib) := ⟨rowIs_later HDG14.out.start s15 (Nat.le_refl _), rowIs_later HDG14.out.heads s15 (Nat.le_refl _), rowIs_later HDG14.out.items s15 (Nat.le_refl _)⟩
          have HQ15 : Aside (w15.rowIs hb2 21 m (fun q => .int .i32 (headAt all n q)) ∧ w15.rowIs ib2 21 m (fun q => .int .i32 (itemAt all n q))) := ⟨rowIs_later HQ14.out.1 s15 (Nat.le_refl _), rowIs_later HQ14.out.2 s15 (Nat.le_refl _)⟩
          clear r14 s15 s014 HDG14 HQ14 c0 c1 c2
          go_wp2_with fail
          have hh15 : w15.rowIs hb 21 m (fun q => .int .i32 (headAt all n q)) := by have := HDG15.out.heads; rwa [Hm.out] at this
          refine (equal21 (by omega) (IntsAt.ofRow (X := headAt all n) HQ15.out.1) (IntsAt.ofRow (X := headAt all n) hh15)).mono ?_
          rintro e w16 ⟨rfl, s16⟩
          have r16 := rowIs_later r15 s16 (Nat.le_refl _)
          have s016 := since_chain s015 s16
          have hi16 : w16.rowIs ib 21 m (fun q => .int .i32 (itemAt all n q)) := by have := rowIs_later HDG15.out.items s16 (Nat.le_refl _); rwa [Hm.out] at this
          have HQ16 : Aside (w16.rowIs ib2 21 m (fun q => .int .i32 (itemAt all n q))) := rowIs_later HQ15.out.2 s16 (Nat.le_refl _)
          have c0 : w16.cell? ⟨w12.heap.size, 0, none⟩ = some (.slice (some ⟨sb2, 0, none⟩) (n + 1) (n + 1)) := r16.cell (i := 0) (by omega)
          have c1 : w16.cell? ⟨w12.heap.size, 1, none⟩ = some (.slice (some ⟨hb2, 0, none⟩) m m) := r16.cell (i := 1) (by omega)
          have c2 : w16.cell? ⟨w12.heap.size, 2, none⟩ = some (.slice (some ⟨ib2, 0, none⟩) m m) := r16.cell (i := 2) (by omega)
          clear r15 s16 s015 HDG15 HQ15 hh15
          go_wp2_with fail
          refine (items42 _ _ _ _ _ _ _ rfl).mono ?_
          rintro e w17 ⟨rfl, s17⟩
          have s017 := since_chain s016 s17
          have hi17 := rowIs_later hi16 s17 (Nat.le_refl _)
          have hq17 := rowIs_later HQ16.out s17 (Nat.le_refl _)
          clear r16 s17 s016 hi16 HQ16 c0 c1 c2
          go_wp2_with fail
          refine (equal21 (by omega) (IntsAt.ofRow (X := itemAt all n) hq17) (IntsAt.ofRow (X := itemAt all n) hi17)).mono ?_
          rintro e w18 ⟨rfl, s18⟩
          have s018 := since_chain s017 s18
          clear s18 s017 hi17 hq17
          go_wp2
          go_ret
          exact ⟨rfl, s018⟩
end Go.Proofs.Qxb6601390a
