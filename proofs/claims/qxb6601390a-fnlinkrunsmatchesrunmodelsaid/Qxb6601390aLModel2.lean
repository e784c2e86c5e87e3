/-
  zzLinkModel_b1 (10).
-/
import Derived.Test.Qxb6601390aLModel
namespace Go.Proofs.Qxb6601390a
open Go.RowKit Plain

/-- The backward scan: the rows from kk on hold no match; or the last match is found. -/
def InvK (d : Vd) (e : Wd) (i : Nat) (fb : Bool) (kk : Nat) (cur : Int) : Prop :=
  (fb = false ∧ mt d e i = mTo d e i kk ∧ cur = d.nx i) ∨ (fb = true ∧ cur = nextOf d e i ∧ mt d e i ≠ [])
def InvJ (d : Vd) (e : Wd) (i k t : Nat) (fb : Bool) (jj : Nat) (cur : Int) : Prop :=
  (fb = false ∧ mt d e i = mTo d e i k ++ rowM d e i t jj ∧ cur = d.nx i) ∨ (fb = true ∧ cur = nextOf d e i ∧ mt d e i ≠ [])

/-- The row 'next', version i being linked. -/
def nxCell (d : Vd) (e : Wd) (i : Nat) (cur : Int) (j : Nat) : Value := .int .i32 (if j < i then nextOf d e j else if j = i then cur else 0)

structure Mod (w wr : World) (d : Vd) (e : Wd) (i : Nat) (cur : Int) : Prop where
  since : w.Since w.heap.size wr
  row : wr.rowIs w.heap.size 21 d.n (nxCell d e i cur)
theorem Mod.set {w wr : World} {d : Vd} {e : Wd} {i : Nat} {cur : Int} (h : Mod w wr d e i cur) (x : Int) : Mod w (wr.setCell ⟨w.heap.size, i, none⟩ (.int .i32 x)) d e i x :=
  ⟨h.since.setCell (Nat.le_refl _) _, (h.row.set i _).congr (fun j _ => by
    simp only [nxCell]
    by_cases g : j = i
    · subst g; simp
    · rw [if_neg g]; simp [g])⟩
theorem Mod.next {w wr : World} {d : Vd} {e : Wd} {i : Nat} (h : Mod w wr d e i (nextOf d e i)) : Mod w wr d e (i + 1) 0 :=
  ⟨h.since, h.row.congr (fun j _ => by
    simp only [nxCell]
    by_cases g : j < i
    · rw [if_pos g, if_pos (by omega)]
    · by_cases g2 : j = i
      · subst g2; rw [if_neg g, if_pos rfl, if_pos (by omega)]
      · rw [if_neg g, if_neg g2, if_neg (by omega)]; simp)⟩
theorem Mod.cell {w wr : World} {d : Vd} {e : Wd} {i : Nat} {cur : Int} (h : Mod w wr d e i cur) (hi : i < d.n) : wr.cell? ⟨w.heap.size, i, none⟩ = some (.int .i32 cur) := by
  rw [h.row.cell hi]; simp [nxCell]
theorem Mod.later {w wr w' : World} {d : Vd} {e : Wd} {i : Nat} {cur : Int} (h : Mod w wr d e i cur) (s : wr.Since wr.heap.size w') : Mod w w' d e i cur :=
  ⟨sinceC h.since s, rowLater h.row s (Nat.le_refl _)⟩

def ModelMade (w w' : World) (r : Ending) (d : Vd) (e : Wd) : Prop :=
  ∃ b, r = .returned (.tuple #[.slice (some ⟨b, 0, none⟩) d.n d.n, .bool (clashTo d e d.n)]) ∧ w.Since w.heap.size w' ∧ w'.rowIs b 21 d.n (fun j => .int .i32 (nextOf d e j)) ∧ w.heap.size ≤ b

theorem clash_yes {nx : Int} {p : List Nat} (h : p ≠ []) (h0 : 0 ≤ nx) : clashP nx p = true := by
  cases p with
  | nil => exact absurd rfl h
  | cons a l => simp [clashP, h0]
theorem clash_len {nx : Int} {p : List Nat} (h : p ≠ []) (h0 : ¬ 0 ≤ nx) : clashP nx p = decide (2 ≤ p.length) := by
  cases p with
  | nil => exact absurd rfl h
  | cons a l => simp [clashP, h0]

set_option maxHeartbeats 3200000 in
set_option maxRecDepth 100000 in
theorem model10 {w : World} {d : Vd} {m : Vm} {e : Wd} {f : Wm} {c1 c2 : Nat} (hv : VersAt w d m) (hw : WritesAt w e f) (hD : DomV d e) (hn : d.n ≤ 1048576) :
    Calls Try.prog 10 #[.slice m.a d.n c1, .slice f.a e.n c2] w fun e' w' => ModelMade w w' e' d e := by
  have hmk := run_make_row' (P := Try.prog) 28 21 (.int .i32 0) 4 Try.underlying28 Try.info21 rfl .i64 .i64 d.n (by omega) (by omega)
  have b2 := hw.bN
  obtain ⟨va, Hva⟩ : ∃ va, Aside (m.a = va) := ⟨_, rfl⟩
  obtain ⟨wa, Hwa⟩ : ∃ wa, Aside (f.a = wa) := ⟨_, rfl⟩
  rw [Hva.out, Hwa.out]
  have HD : Aside (DomV d e) := hD
  have HV : Aside (VersAt w d m) := hv
  have HW : Aside (WritesAt w e f) := hw
  clear hD hv hw
  go_enter Try.func10, Try.ntmps10
  go_wp2
  clear hmk
  go_loopg [8, 9] d.n (fun g s8 s9 wr => ∃ i : Nat, i ≤ d.n ∧ g = d.n - i ∧ s9 = .int .i64 (i : Int) ∧ s8 = .bool (clashTo d e i) ∧ Mod w wr d e i 0)
  case atStart => exact ⟨0, Nat.zero_le _, rfl, rfl, rfl, ⟨(World.Since.refl _ _).alloc (Nat.le_refl _) _, (World.rowIs_made w (.int .i32 0) d.n 21).congr (fun j _ => by simp [nxCell])⟩⟩
  case round =>
    obtain ⟨i, hi, rfl, rfl, rfl, hM⟩ := hrel
    obtain ⟨cl, Hcl⟩ : ∃ cl, Aside (clashTo d e i = cl) := ⟨_, rfl⟩
    rw [Hcl.out]
    by_cases hin : i < d.n
    · have hiz : (i : Int) < (d.n : Int) := by omega
      obtain rfl : va = some ⟨m.b, m.o, none⟩ := Hva.out.symm.trans (HV.out.addr (by omega))
      have q1 := cell_later hM.since (Nat.le_refl _) (HV.out.cn i hin)
      have q2 := cell_later hM.since (Nat.le_refl _) (HV.out.ci i hin)
      have q3 := cell_later hM.since (Nat.le_refl _) (HV.out.cr i hin)
      have q4 := hM.cell hin
      have q5 := hM.row.frozen i
      have bl := HV.out.bl i hin
      have hbv := World.block_lt_of_cell? _ _ (HV.out.cn i hin)
      simp only at hbv
      obtain ⟨ar, HAr⟩ : ∃ ar, Aside (m.ra i = ar) := ⟨_, rfl⟩
      rw [HAr.out] at q3
      have hM1 := hM.set (d.nx i)
      clear hM
      go_wp2
      clear q1 q2 q3 q4 q5
      obtain ⟨wo, rfl⟩ : ∃ wo : World, wo = wr := ⟨_, rfl⟩
      go_loopg [12, 13] (d.rl i) (fun g s12 s13 wi => ∃ (kk : Nat) (fb : Bool) (cur : Int), kk ≤ d.rl i ∧ g = kk ∧ s12 = .bool fb ∧ s13 = .int .i64 ((kk : Int) - 1) ∧ Mod w wi d e i cur ∧ InvK d e i fb kk cur)
      case atStart => exact ⟨d.rl i, false, d.nx i, Nat.le_refl _, rfl, rfl, rfl, hM1, .inl ⟨rfl, rfl, rfl⟩⟩
      case round =>
        clear hM1
        obtain ⟨kk, fb, cur, hkk, rfl, rfl, rfl, hM, hK⟩ := hrel
        have HK : Aside (InvK d e i fb gk cur) := hK
        clear hK
        cases fb with
        | false =>
          obtain ⟨hmk, hcur⟩ : mt d e i = mTo d e i gk ∧ cur = d.nx i := by
            rcases HK.out with ⟨_, h2, h3⟩ | ⟨h1, _, _⟩
            · exact ⟨h2, h3⟩
            · cases h1
          by_cases hk0 : gk = 0
          · subst hk0
            have hmt : mt d e i = [] := hmk
            have hfin : Mod w wr d e (i + 1) 0 := by
              have : cur = nextOf d e i := by rw [nextOf, hmt, nextP_nil]; exact hcur
              rw [this] at hM; exact hM.next
            have hcl : clashTo d e (i + 1) = cl := by rw [clashTo_succ, Hcl.out, hmt]; simp [clashP]
            have HCL : Aside (clashTo d e (i + 1) = cl) := hcl
            clear hcl hmt hmk hcur hM HK
            go_wp2
            go_roundg (d.n - (i + 1))
            case measure => go_light; omega
            case rel => go_light; exact ⟨i + 1, by omega, rfl, by simp, by rw [HCL.out], hfin⟩
          · obtain ⟨k, rfl⟩ : ∃ k, gk = k + 1 := ⟨gk - 1, by omega⟩
            have hkl : k < d.rl i := by omega
            have ek : (((k + 1 : Nat) : Int) - 1) = (k : Int) := by omega
            rw [ek]
            have hkz : (k : Int) < (d.rl i : Int) := by omega
            obtain rfl : ar = some ⟨m.rb i, m.ro i, none⟩ := HAr.out.symm.trans (HV.out.ra i hin k hkl)
            obtain ⟨r1, r2⟩ := HD.out.r hin hkl
            obtain rfl : wa = some ⟨f.b, f.o, none⟩ := Hwa.out.symm.trans (HW.out.addr (by omega))
            obtain ⟨t, Ht⟩ : ∃ t, Aside (rrN d i k = t) := ⟨_, rfl⟩
            rw [Ht.out] at r1 r2
            have q2 := cell_later hM.since (Nat.le_refl _) (HV.out.rr i hin k hkl)
            rw [r1] at q2
            have q3 := cell_later hM.since (Nat.le_refl _) (HW.out.row t r2)
            have bt := HW.out.bl t r2
            obtain ⟨at', HAt⟩ : ∃ at', Aside (f.ra t = at') := ⟨_, rfl⟩
            rw [HAt.out] at q3
            have htz : (t : Int) < (e.n : Int) := by omega
            have HJ0 : Aside (InvJ d e i k t false (e.l t) cur) := .inl ⟨rfl, by rw [hmk, mTo, Ht.out], hcur⟩
            clear r1 hmk hcur HK ek
            go_wp2
            clear q2 q3
            obtain ⟨wo2, rfl⟩ : ∃ wo2 : World, wo2 = wr := ⟨_, rfl⟩
            go_loopg [12, 15] (e.l t) (fun g s12 s15 wi => ∃ (jj : Nat) (fb : Bool) (cur : Int), jj ≤ e.l t ∧ g = jj ∧ s12 = .bool fb ∧ s15 = .int .i64 ((jj : Int) - 1) ∧ Mod w wi d e i cur ∧ InvJ d e i k t fb jj cur)
            case atStart => exact ⟨e.l t, false, cur, Nat.le_refl _, rfl, rfl, rfl, hM, HJ0.out⟩
            case round =>
              clear hM HJ0
              obtain ⟨jj, fb, cur, hjj, rfl, rfl, rfl, hM, hJ⟩ := hrel
              have HJ : Aside (InvJ d e i k t fb gk cur) := hJ
              clear hJ
              cases fb with
              | true =>
                have HK1 : Aside (InvK d e i true k cur) := by
                  rcases HJ.out with ⟨h1, _⟩ | ⟨_, h2, h3⟩
                  · cases h1
                  · exact .inr ⟨rfl, h2, h3⟩
                by_cases hj0 : gk = 0
                · subst hj0
                  go_wp2
                  go_roundg k
                  case measure => go_light; omega
                  case rel => go_light; exact ⟨k, true, cur, by omega, rfl, rfl, by simp, hM, HK1.out⟩
                · have hjp : 1 ≤ gk := by omega
                  have hjz : (0 : Int) ≤ (gk : Int) - 1 := by omega
                  go_wp2
                  go_roundg k
                  case measure => go_light; omega
                  case rel => go_light; exact ⟨k, true, cur, by omega, rfl, rfl, by simp, hM, HK1.out⟩
              | false =>
                obtain ⟨hmj, hcur⟩ : mt d e i = mTo d e i k ++ rowM d e i t gk ∧ cur = d.nx i := by
                  rcases HJ.out with ⟨_, h2, h3⟩ | ⟨h1, _, _⟩
                  · exact ⟨h2, h3⟩
                  · cases h1
                by_cases hj0 : gk = 0
                · subst hj0
                  have HK1 : Aside (InvK d e i false k cur) := .inl ⟨rfl, by rw [hmj]; simp [rowM], hcur⟩
                  clear hmj hcur HJ
                  go_wp2
                  go_roundg k
                  case measure => go_light; omega
                  case rel => go_light; exact ⟨k, false, cur, by omega, rfl, rfl, by simp, hM, HK1.out⟩
                · obtain ⟨j, rfl⟩ : ∃ j, gk = j + 1 := ⟨gk - 1, by omega⟩
                  have hjl : j < e.l t := by omega
                  have ej : (((j + 1 : Nat) : Int) - 1) = (j : Int) := by omega
                  rw [ej]
                  have hjz : (j : Int) < (e.l t : Int) := by omega
                  obtain rfl : at' = some ⟨f.rb t, f.ro t, none⟩ := HAt.out.symm.trans (HW.out.ra t r2 j hjl)
                  obtain ⟨v1, v2⟩ := HD.out.v hin hkl (j := j) (by rw [Ht.out]; exact hjl)
                  rw [Ht.out] at v1 v2
                  obtain ⟨v, Hv⟩ : ∃ v, Aside (vvN e t j = v) := ⟨_, rfl⟩
                  rw [Hv.out] at v1 v2
                  have q4 := cell_later hM.since (Nat.le_refl _) (HW.out.cv t r2 j hjl)
                  rw [v1] at q4
                  have q5 := cell_later hM.since (Nat.le_refl _) (HV.out.ci v v2)
                  have hvz : (v : Int) < (d.n : Int) := by omega
                  have q6 := hM.cell hin
                  have q7 := hM.row.frozen i
                  have hbw := World.block_lt_of_cell? _ _ (HW.out.cv t r2 j hjl)
                  simp only at hbw
                  clear v1 HJ ej
                  by_cases hit : d.it v = d.it i
                  · have hib : (d.it v == d.it i) = true := by simp [hit]
                    have hmv : mt d e i = (mTo d e i k ++ rowM d e i t j) ++ [v] := by rw [hmj, rowM, Hv.out, if_pos hit, List.append_assoc]
                    have HJ1 : Aside (InvJ d e i k t true j (v : Int)) := .inr ⟨rfl, by rw [nextOf, hmv, nextP_snoc], by rw [hmv]; simp⟩
                    have hM1 := hM.set (v : Int)
                    have Hit : Aside (d.it v = d.it i) := hit
                    clear hmj hmv hcur hM hit
                    go_wp2
                    go_roundg j
                    case measure => go_light; omega
                    case rel => go_light; exact ⟨j, true, (v : Int), by omega, rfl, rfl, rfl, hM1, HJ1.out⟩
                  · have hib : (d.it v == d.it i) = false := by simp [hit]
                    have HJ1 : Aside (InvJ d e i k t false j cur) := .inl ⟨rfl, by rw [hmj, rowM, Hv.out, if_neg hit, List.append_nil], hcur⟩
                    clear hmj hcur hit
                    go_wp2
                    go_roundg j
                    case measure => go_light; omega
                    case rel => go_light; exact ⟨j, false, cur, by omega, rfl, rfl, rfl, hM, HJ1.out⟩
        | true =>
          obtain ⟨hcur, hne⟩ : cur = nextOf d e i ∧ mt d e i ≠ [] := by
            rcases HK.out with ⟨h1, _⟩ | ⟨_, h2, h3⟩
            · cases h1
            · exact ⟨h2, h3⟩
          rw [hcur] at hM
          have q1 := cell_later hM.since (Nat.le_refl _) (HV.out.cn i hin)
          have hfin := hM.next
          by_cases hnx : 0 ≤ d.nx i
          · have hcl : clashTo d e (i + 1) = true := by rw [clashTo_succ, clash_yes hne hnx]; simp
            have HCL : Aside (clashTo d e (i + 1) = true) := hcl
            clear hcl hcur hne HK hM
            by_cases hg0 : gk = 0
            · subst hg0
              go_wp2
              go_roundg (d.n - (i + 1))
              case measure => go_light; omega
              case rel => go_light; exact ⟨i + 1, by omega, rfl, by simp, by rw [HCL.out], hfin⟩
            · have hgp : (0 : Int) ≤ (gk : Int) - 1 := by omega
              go_wp2
              go_roundg (d.n - (i + 1))
              case measure => go_light; omega
              case rel => go_light; exact ⟨i + 1, by omega, rfl, by simp, by rw [HCL.out], hfin⟩
          · have hcl : clashTo d e (i + 1) = (cl || decide (2 ≤ (mt d e i).length)) := by rw [clashTo_succ, clash_len hne hnx, Hcl.out]
            have HCL : Aside (clashTo d e (i + 1) = (cl || decide (2 ≤ (mt d e i).length))) := hcl
            have hnd : decide (0 ≤ d.nx i) = false := by simp; omega
            have hC := count47 (c1 := c1) (c2 := c2) (HV.out.later hM.since (Nat.le_refl _)) (HW.out.later hM.since (Nat.le_refl _)) HD.out hin hn
            have HC : Aside (Calls Try.prog 47 #[.slice m.a d.n c1, .slice f.a e.n c2, .int .i64 (i : Int)] wr fun e' w' => e' = .returned (.int .i64 ((min 2 (mt d e i).length : Nat) : Int)) ∧ wr.Since wr.heap.size w') := hC
            rw [Hva.out, Hwa.out] at HC
            have hlt : ∀ w', wr.Since wr.heap.size w' → Mod w w' d e (i + 1) 0 := fun w' s => hfin.later s
            clear hcl hcur hne HK hM hC hfin
            by_cases hg0 : gk = 0
            · subst hg0
              go_wp2_with fail
              refine (show Calls _ _ _ _ _ from HC.out).mono ?_
              rintro e' w2 ⟨rfl, s2⟩
              have hf := hlt w2 s2
              clear hlt s2 HC
              by_cases h2 : 2 ≤ (mt d e i).length
              · rw [show min 2 (mt d e i).length = 2 by omega]
                have HC1 : Aside (clashTo d e (i + 1) = true) := by show _ = _; rw [HCL.out, decide_eq_true h2, Bool.or_true]
                go_wp2
                go_roundg (d.n - (i + 1))
                case measure => go_light; omega
                case rel => go_light; exact ⟨i + 1, by omega, rfl, by simp, by rw [HC1.out], hf⟩
              · obtain ⟨z, hz⟩ : ∃ z, min 2 (mt d e i).length = z := ⟨_, rfl⟩
                have hz1 : z ≤ 1 := by omega
                have HC1 : Aside (clashTo d e (i + 1) = cl) := by show _ = _; rw [HCL.out, decide_eq_false h2, Bool.or_false]
                rw [hz]
                clear hz
                go_wp2
                go_roundg (d.n - (i + 1))
                case measure => go_light; omega
                case rel => go_light; exact ⟨i + 1, by omega, rfl, by simp, by rw [HC1.out], hf⟩
            · have hgp : (0 : Int) ≤ (gk : Int) - 1 := by omega
              go_wp2_with fail
              refine (show Calls _ _ _ _ _ from HC.out).mono ?_
              rintro e' w2 ⟨rfl, s2⟩
              have hf := hlt w2 s2
              clear hlt s2 HC
              by_cases h2 : 2 ≤ (mt d e i).length
              · rw [show min 2 (mt d e i).length = 2 by omega]
                have HC1 : Aside (clashTo d e (i + 1) = true) := by show _ = _; rw [HCL.out, decide_eq_true h2, Bool.or_true]
                go_wp2
                go_roundg (d.n - (i + 1))
                case measure => go_light; omega
                case rel => go_light; exact ⟨i + 1, by omega, rfl, by simp, by rw [HC1.out], hf⟩
              · obtain ⟨z, hz⟩ : ∃ z, min 2 (mt d e i).length = z := ⟨_, rfl⟩
                have hz1 : z ≤ 1 := by omega
                have HC1 : Aside (clashTo d e (i + 1) = cl) := by show _ = _; rw [HCL.out, decide_eq_false h2, Bool.or_false]
                rw [hz]
                clear hz
                go_wp2
                go_roundg (d.n - (i + 1))
                case measure => go_light; omega
                case rel => go_light; exact ⟨i + 1, by omega, rfl, by simp, by rw [HC1.out], hf⟩
    · have hiz : ¬ (i : Int) < (d.n : Int) := by omega
      obtain rfl : i = d.n := by omega
      go_wp2
      go_ret2
      exact ⟨w.heap.size, by rw [← Hcl.out]; rfl, hM.since, hM.row.congr (fun j hj => by simp only [nxCell]; rw [if_pos hj]), Nat.le_refl _⟩
end Go.Proofs.Qxb6601390a
