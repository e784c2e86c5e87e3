/-
  zzLinkRunsDomain_b1 (9).
-/
import Derived.Test.Qxb6601390aLModel2
namespace Go.Proofs.Qxb6601390a
open Go.RowKit Plain

def DomR (d : Vd) (e : Wd) (i k : Nat) : Prop := 0 ≤ d.r i k ∧ d.r i k < (e.n : Int) ∧ ∀ j, j < e.l (rrN d i k) → 0 ≤ e.v (rrN d i k) j ∧ e.v (rrN d i k) j < (d.n : Int)
def DomI (d : Vd) (e : Wd) (i : Nat) : Prop := (0 ≤ d.nx i → d.nx i < (d.n : Int)) ∧ ∀ k, k < d.rl i → DomR d e i k
/-- WHERE THE LAW SPEAKS: every index is in range; no chain from an unled version runs into a cycle. -/
def DomAll (d : Vd) (e : Wd) : Prop :=
  DomV d e ∧ ∃ s, IsLog d.n s ∧ ∀ i, i < d.n → ledTo (nextOf d e) d.n i = false → nextOf d e (itr (stepN (nextOf d e)) (2 ^ (s + 1)) i) < 0

theorem next_lt {d : Vd} {e : Wd} (h : DomV d e) : ∀ i, i < d.n → nextOf d e i < (d.n : Int) := fun i hi => by
  rcases nextOf_lt h hi with g | g <;> omega

set_option maxHeartbeats 3200000 in
set_option maxRecDepth 100000 in
theorem domain9 {w : World} {d : Vd} {m : Vm} {e : Wd} {f : Wm} {c1 c2 : Nat} (hv : VersAt w d m) (hw : WritesAt w e f) (hn : d.n ≤ 1048576) :
    Calls Try.prog 9 #[.slice m.a d.n c1, .slice f.a e.n c2] w fun e' w' => Answers (fun b => b = true → DomAll d e) e' ∧ w.Since w.heap.size w' := by
  have b2 := hw.bN
  obtain ⟨va, Hva⟩ : ∃ va, Aside (m.a = va) := ⟨_, rfl⟩
  obtain ⟨wa, Hwa⟩ : ∃ wa, Aside (f.a = wa) := ⟨_, rfl⟩
  rw [Hva.out, Hwa.out]
  have HV : Aside (VersAt w d m) := hv
  have HW : Aside (WritesAt w e f) := hw
  clear hv hw
  go_enter Try.func9, Try.ntmps9
  go_wp2
  go_loopg [6] d.n (fun g s6 wr => wr = w ∧ ∃ i : Nat, i ≤ d.n ∧ g = d.n - i ∧ s6 = .int .i64 (i : Int) ∧ ∀ q, q < i → DomI d e q)
  case atStart => exact ⟨rfl, 0, Nat.zero_le _, rfl, rfl, fun q hq => absurd hq (Nat.not_lt_zero _)⟩
  case round =>
    obtain ⟨rfl, i, hi, rfl, rfl, hall⟩ := hrel
    have HA : Aside (∀ q, q < i → DomI d e q) := hall
    clear hall
    by_cases hin : i < d.n
    · have hiz : (i : Int) < (d.n : Int) := by omega
      obtain rfl : va = some ⟨m.b, m.o, none⟩ := Hva.out.symm.trans (HV.out.addr (by omega))
      have q1 := HV.out.cn i hin
      have q2 := HV.out.cr i hin
      obtain ⟨bn1, bn2⟩ := HV.out.bn i hin
      have bl := HV.out.bl i hin
      obtain ⟨ar, HAr⟩ : ∃ ar, Aside (m.ra i = ar) := ⟨_, rfl⟩
      rw [HAr.out] at q2
      by_cases hbad : 0 ≤ d.nx i ∧ (d.n : Int) ≤ d.nx i
      · obtain ⟨hb1, hb2⟩ := hbad
        go_wp2
        go_ret
        exact ⟨Answers.mk false rfl (fun h => by cases h), World.Since.refl _ _⟩
      have HNX : Aside (0 ≤ d.nx i → d.nx i < (d.n : Int)) := fun h0 => by omega
      by_cases h0 : 0 ≤ d.nx i
      all_goals
        have hlt : d.nx i < (d.n : Int) := by have := HNX.out; omega
        go_wp2
        go_loopg [8] (d.rl i) (fun g s8 wi => wi = wr ∧ ∃ k : Nat, k ≤ d.rl i ∧ g = d.rl i - k ∧ s8 = .int .i64 (k : Int) ∧ ∀ q, q < k → DomR d e i q)
        case atStart => exact ⟨rfl, 0, Nat.zero_le _, rfl, rfl, fun q hq => absurd hq (Nat.not_lt_zero _)⟩
        case round =>
          obtain ⟨rfl, k, hk, rfl, rfl, hall⟩ := hrel
          have HB : Aside (∀ q, q < k → DomR d e i q) := hall
          clear hall
          by_cases hkl : k < d.rl i
          · have hkz : (k : Int) < (d.rl i : Int) := by omega
            obtain rfl : ar = some ⟨m.rb i, m.ro i, none⟩ := HAr.out.symm.trans (HV.out.ra i hin k hkl)
            have q3 := HV.out.rr i hin k hkl
            obtain ⟨br1, br2⟩ := HV.out.br i hin k hkl
            by_cases r0 : d.r i k < 0
            · go_wp2
              go_ret
              exact ⟨Answers.mk false rfl (fun h => by cases h), World.Since.refl _ _⟩
            by_cases r1 : (e.n : Int) ≤ d.r i k
            · go_wp2
              go_ret
              exact ⟨Answers.mk false rfl (fun h => by cases h), World.Since.refl _ _⟩
            obtain ⟨t, ht⟩ : ∃ t : Nat, d.r i k = t := ⟨(d.r i k).toNat, by omega⟩
            have Ht : Aside (rrN d i k = t) := by show _ = _; simp only [rrN]; omega
            have Ht2 : Aside (d.r i k = t) := ht
            rw [ht] at q3 r0 r1 br1 br2
            clear ht
            have htn : t < e.n := by omega
            obtain rfl : wa = some ⟨f.b, f.o, none⟩ := Hwa.out.symm.trans (HW.out.addr (by omega))
            have q4 := HW.out.row t htn
            have bt := HW.out.bl t htn
            obtain ⟨at', HAt⟩ : ∃ at', Aside (f.ra t = at') := ⟨_, rfl⟩
            rw [HAt.out] at q4
            go_wp2
            go_loopg [11] (e.l t) (fun g s11 wj => wj = wr ∧ ∃ j : Nat, j ≤ e.l t ∧ g = e.l t - j ∧ s11 = .int .i64 (j : Int) ∧ ∀ q, q < j → 0 ≤ e.v t q ∧ e.v t q < (d.n : Int))
            case atStart => exact ⟨rfl, 0, Nat.zero_le _, rfl, rfl, fun q hq => absurd hq (Nat.not_lt_zero _)⟩
            case round =>
              obtain ⟨rfl, j, hj, rfl, rfl, hall⟩ := hrel
              have HC : Aside (∀ q, q < j → 0 ≤ e.v t q ∧ e.v t q < (d.n : Int)) := hall
              clear hall
              by_cases hjl : j < e.l t
              · have hjz : (j : Int) < (e.l t : Int) := by omega
                obtain rfl : at' = some ⟨f.rb t, f.ro t, none⟩ := HAt.out.symm.trans (HW.out.ra t htn j hjl)
                have q5 := HW.out.cv t htn j hjl
                obtain ⟨bv1, bv2⟩ := HW.out.bv t htn j hjl
                by_cases v0 : e.v t j < 0
                · go_wp2
                  go_ret
                  exact ⟨Answers.mk false rfl (fun h => by cases h), World.Since.refl _ _⟩
                by_cases v1 : (d.n : Int) ≤ e.v t j
                · go_wp2
                  go_ret
                  exact ⟨Answers.mk false rfl (fun h => by cases h), World.Since.refl _ _⟩
                go_wp2
                go_roundg (e.l t - (j + 1))
                case measure => go_light; omega
                case rel =>
                  go_light
                  refine ⟨rfl, j + 1, by omega, rfl, by simp, fun q hq => ?_⟩
                  by_cases g : q = j
                  · subst g; omega
                  · exact HC.out q (by omega)
              · have hjz : ¬ (j : Int) < (e.l t : Int) := by omega
                go_wp2
                go_roundg (d.rl i - (k + 1))
                case measure => go_light; omega
                case rel =>
                  go_light
                  refine ⟨rfl, k + 1, by omega, rfl, by simp, fun q hq => ?_⟩
                  by_cases g : q = k
                  · subst g
                    have e1 := Ht2.out
                    exact ⟨by omega, by omega, fun j' hj' => by rw [Ht.out] at hj' ⊢; exact HC.out j' (by omega)⟩
                  · exact HB.out q (by omega)
          · have hkz : ¬ (k : Int) < (d.rl i : Int) := by omega
            go_wp2
            go_roundg (d.n - (i + 1))
            case measure => go_light; omega
            case rel =>
              go_light
              refine ⟨rfl, i + 1, by omega, rfl, by simp, fun q hq => ?_⟩
              by_cases g : q = i
              · subst g; exact ⟨HNX.out, fun k' hk' => HB.out k' (by omega)⟩
              · exact HA.out q (by omega)
    · have hiz : ¬ (i : Int) < (d.n : Int) := by omega
      have hDV : DomV d e := fun q hq => HA.out q (by omega)
      have HDV : Aside (DomV d e) := hDV
      clear hDV
      go_wp2_with fail
      rw [← Hva.out, ← Hwa.out]
      refine (model10 HV.out HW.out HDV.out hn).mono ?_
      rintro e' w1 ⟨nb, rfl, s1, hnx, -⟩
      have HN1 : Aside (∀ i, i < d.n → nextOf d e i < (d.n : Int)) := next_lt HDV.out
      have HN2 : Aside (∀ i, i < d.n → -2147483648 ≤ nextOf d e i) := fun i hi => nextOf_lo (HV.out.bn i hi).1
      have HNX : Aside (w1.rowIs nb 21 d.n (fun j => .int .i32 (nextOf d e j))) := hnx
      clear hnx
      go_wp2_with fail
      refine (ends11 (IntsAt.ofRow (X := nextOf d e) HNX.out) hn HN1.out HN2.out).mono ?_
      rintro e' w2 ⟨eb, s, rfl, s2, hlog, heb, -⟩
      have HNX2 : Aside (w2.rowIs nb 21 d.n (fun j => .int .i32 (nextOf d e j))) := rowLater HNX.out s2 (Nat.le_refl _)
      have s02 := sinceC s1 s2
      have HE : Aside (w2.rowIs eb 3 d.n (fun j => .int .i64 (itr (stepN (nextOf d e)) (2 ^ (s + 1)) j : Int)) ∧ IsLog d.n s) := ⟨heb, hlog⟩
      clear heb hlog HNX s1 s2
      go_wp2_with fail
      refine (led12 (IntsAt.ofRow (X := nextOf d e) HNX2.out) hn HN1.out).mono ?_
      rintro e' w3 ⟨lb, rfl, s3, hlb, -⟩
      have hnx3 := rowLater HNX2.out s3 (Nat.le_refl _)
      have heb3 := rowLater HE.out.1 s3 (Nat.le_refl _)
      have s03 := sinceC s02 s3
      clear HNX2 s02 s3
      go_wp2
      go_loopg [16] d.n (fun g s16 wi => wi = w3 ∧ ∃ i : Nat, i ≤ d.n ∧ g = d.n - i ∧ s16 = .int .i64 (i : Int) ∧ ∀ q, q < i → ledTo (nextOf d e) d.n q = false → nextOf d e (itr (stepN (nextOf d e)) (2 ^ (s + 1)) q) < 0)
      case atStart => exact ⟨rfl, 0, Nat.zero_le _, rfl, rfl, fun q hq => absurd hq (Nat.not_lt_zero _)⟩
      case round =>
        obtain ⟨rfl, i, hi, rfl, rfl, hall⟩ := hrel
        have HA2 : Aside (∀ q, q < i → ledTo (nextOf d e) d.n q = false → nextOf d e (itr (stepN (nextOf d e)) (2 ^ (s + 1)) q) < 0) := hall
        clear hall
        by_cases hin : i < d.n
        · have hiz : (i : Int) < (d.n : Int) := by omega
          have q1 := hlb.cell hin
          have q2 := heb3.cell hin
          have hlt := itr_lt HN1.out (2 ^ (s + 1)) i hin
          obtain ⟨z, Hz⟩ : ∃ z, Aside (itr (stepN (nextOf d e)) (2 ^ (s + 1)) i = z) := ⟨_, rfl⟩
          rw [Hz.out] at q2 hlt
          have q3 := hnx3.cell hlt
          have hzz : (z : Int) < (d.n : Int) := by omega
          obtain ⟨lv, Hlv⟩ : ∃ lv, Aside (ledTo (nextOf d e) d.n i = lv) := ⟨_, rfl⟩
          rw [Hlv.out] at q1
          obtain ⟨nz, Hnz⟩ : ∃ nz, Aside (nextOf d e z = nz) := ⟨_, rfl⟩
          rw [Hnz.out] at q3
          cases lv with
          | true =>
            go_wp2
            go_roundg (d.n - (i + 1))
            case measure => go_light; omega
            case rel =>
              go_light
              refine ⟨rfl, i + 1, by omega, rfl, by simp, fun q hq hf => ?_⟩
              by_cases g : q = i
              · subst g; rw [Hlv.out] at hf; cases hf
              · exact HA2.out q (by omega) hf
          | false =>
            by_cases h0 : 0 ≤ nz
            · go_wp2
              go_ret
              exact ⟨Answers.mk false rfl (fun h => by cases h), s03⟩
            · go_wp2
              go_roundg (d.n - (i + 1))
              case measure => go_light; omega
              case rel =>
                go_light
                refine ⟨rfl, i + 1, by omega, rfl, by simp, fun q hq hf => ?_⟩
                by_cases g : q = i
                · subst g; rw [Hz.out, Hnz.out]; omega
                · exact HA2.out q (by omega) hf
        · have hiz : ¬ (i : Int) < (d.n : Int) := by omega
          go_wp2
          go_ret
          exact ⟨Answers.mk true rfl (fun _ => ⟨HDV.out, s, HE.out.2, fun q hq => HA2.out q (by omega)⟩), s03⟩
end Go.Proofs.Qxb6601390a
