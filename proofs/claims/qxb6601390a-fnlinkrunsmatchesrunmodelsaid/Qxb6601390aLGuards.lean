/-
  zzBytes_FnLinkRunsMatchesRunModel (7), zzViewsBytesFit_b1 (8): they only read.
-/
import Derived.Test.Qxb6601390aLData
namespace Go.Proofs.Qxb6601390a
open Go.RowKit Plain

set_option maxHeartbeats 800000 in
set_option maxRecDepth 100000 in
theorem bytes7 {w : World} {d : Vd} {m : Vm} {e : Wd} {f : Wm} {g : Rd} {k : Rm} {c1 c2 c3 : Nat} (hv : VersAt w d m) (hw : WritesAt w e f) (hR : RunsAt w g k) (b : Bool) :
    Calls Try.prog 7 #[.slice m.a d.n c1, .slice f.a e.n c2, .slice k.a g.n c3, .bool b] w fun e w' => Answers (fun _ => True) e ∧ w' = w := by
  have b1 := hv.bN
  have b2 := hw.bN
  have b3 := hR.bN
  obtain ⟨va, Hva⟩ : ∃ va, Aside (m.a = va) := ⟨_, rfl⟩
  obtain ⟨wa, Hwa⟩ : ∃ wa, Aside (f.a = wa) := ⟨_, rfl⟩
  obtain ⟨ka, Hka⟩ : ∃ ka, Aside (k.a = ka) := ⟨_, rfl⟩
  rw [Hva.out, Hwa.out, Hka.out]
  by_cases n1 : (1048576 : Int) < (d.n : Int)
  · go_enter Try.func7, Try.ntmps7
    go_wp2
    go_ret
    exact ⟨Answers.mk _ rfl trivial, rfl⟩
  go_enter Try.func7, Try.ntmps7
  go_wp2
  go_loopg [9, 10] d.n (fun q z i wr2 => wr2 = w ∧ ∃ (r : Nat) (x : Int), r ≤ d.n ∧ q = d.n - r ∧ i = .int .i64 r ∧ z = .int .i64 x ∧ 0 ≤ x ∧ x ≤ 1048576)
  case atStart => exact ⟨rfl, 0, _, Nat.zero_le _, rfl, rfl, rfl, by omega, by omega⟩
  case round =>
    obtain ⟨rfl, r, x, hr, rfl, rfl, rfl, hx0, hx1⟩ := hrel
    by_cases hrG : r < d.n
    · have hrz : (r : Int) < (d.n : Int) := by omega
      obtain rfl : va = some ⟨m.b, m.o, none⟩ := Hva.out.symm.trans (hv.addr (by omega))
      have c0 := hv.cr r hrG
      have hL := hv.bl r hrG
      go_wp2
      · go_ret
        exact ⟨Answers.mk _ rfl trivial, rfl⟩
      · go_ret
        exact ⟨Answers.mk _ rfl trivial, rfl⟩
      · go_roundg (d.n - (r + 1))
        case measure => go_light; omega
        case rel => go_light; exact ⟨rfl, r + 1, _, by omega, rfl, by simp, rfl, by omega, by omega⟩
    · have hrz : ¬ (r : Int) < (d.n : Int) := by omega
      go_wp2
      · go_ret
        exact ⟨Answers.mk _ rfl trivial, rfl⟩
      · go_ret
        exact ⟨Answers.mk _ rfl trivial, rfl⟩
      go_loopg [9, 11] e.n (fun q z i wr2 => wr2 = wr ∧ ∃ (r : Nat) (x : Int), r ≤ e.n ∧ q = e.n - r ∧ i = .int .i64 r ∧ z = .int .i64 x ∧ 0 ≤ x ∧ x ≤ 1048576)
      case atStart => exact ⟨rfl, 0, _, Nat.zero_le _, rfl, rfl, rfl, by omega, by omega⟩
      case round =>
        obtain ⟨rfl, r, x, hr, rfl, rfl, rfl, hx0, hx1⟩ := hrel
        by_cases hrG : r < e.n
        · have hrz : (r : Int) < (e.n : Int) := by omega
          obtain rfl : wa = some ⟨f.b, f.o, none⟩ := Hwa.out.symm.trans (hw.addr (by omega))
          have c0 := hw.row r hrG
          have hL := hw.bl r hrG
          go_wp2
          · go_ret
            exact ⟨Answers.mk _ rfl trivial, rfl⟩
          · go_ret
            exact ⟨Answers.mk _ rfl trivial, rfl⟩
          · go_roundg (e.n - (r + 1))
            case measure => go_light; omega
            case rel => go_light; exact ⟨rfl, r + 1, _, by omega, rfl, by simp, rfl, by omega, by omega⟩
        · have hrz : ¬ (r : Int) < (e.n : Int) := by omega
          go_wp2
          · go_ret
            exact ⟨Answers.mk _ rfl trivial, rfl⟩
          · go_ret
            exact ⟨Answers.mk _ rfl trivial, rfl⟩
          go_loopg [9, 12] g.n (fun q z i wr2 => wr2 = wr ∧ ∃ (r : Nat) (x : Int), r ≤ g.n ∧ q = g.n - r ∧ i = .int .i64 r ∧ z = .int .i64 x ∧ 0 ≤ x ∧ x ≤ 1048576)
          case atStart => exact ⟨rfl, 0, _, Nat.zero_le _, rfl, rfl, rfl, by omega, by omega⟩
          case round =>
            obtain ⟨rfl, r, x, hr, rfl, rfl, rfl, hx0, hx1⟩ := hrel
            by_cases hrG : r < g.n
            · have hrz : (r : Int) < (g.n : Int) := by omega
              obtain rfl : ka = some ⟨k.b, k.o, none⟩ := Hka.out.symm.trans (hR.addr (by omega))
              have c0 := hR.cs r hrG
              have hL := hR.bl r hrG
              go_wp2
              · go_ret
                exact ⟨Answers.mk _ rfl trivial, rfl⟩
              · go_ret
                exact ⟨Answers.mk _ rfl trivial, rfl⟩
              · go_roundg (g.n - (r + 1))
                case measure => go_light; omega
                case rel => go_light; exact ⟨rfl, r + 1, _, by omega, rfl, by simp, rfl, by omega, by omega⟩
            · have hrz : ¬ (r : Int) < (g.n : Int) := by omega
              go_wp2
              go_ret
              exact ⟨Answers.mk _ rfl trivial, rfl⟩

/-- THE SIZE THAT zzViewsBytesFit_b1 LETS BY. -/
def FitL (d : Vd) (e : Wd) (g : Rd) : Prop := 40 * d.n + 24 * e.n + 40 * g.n + 4 * sumTo d.rl d.n + 8 * sumTo e.l e.n + 4 * sumTo g.sl g.n ≤ 1048576

set_option maxHeartbeats 1600000 in
set_option maxRecDepth 100000 in
theorem fit8 {w : World} {d : Vd} {m : Vm} {e : Wd} {f : Wm} {g : Rd} {k : Rm} {c1 c2 c3 : Nat} (hv : VersAt w d m) (hw : WritesAt w e f) (hR : RunsAt w g k) :
    Calls Try.prog 8 #[.slice m.a d.n c1, .slice f.a e.n c2, .slice k.a g.n c3, .slice none 0 0, .slice none 0 0, .slice none 0 0] w fun e' w' => Answers (fun b => b = true → FitL d e g) e' ∧ w' = w := by
  have b1 := hv.bN
  have b2 := hw.bN
  have b3 := hR.bN
  obtain ⟨va, Hva⟩ : ∃ va, Aside (m.a = va) := ⟨_, rfl⟩
  obtain ⟨wa, Hwa⟩ : ∃ wa, Aside (f.a = wa) := ⟨_, rfl⟩
  obtain ⟨ka, Hka⟩ : ∃ ka, Aside (k.a = ka) := ⟨_, rfl⟩
  rw [Hva.out, Hwa.out, Hka.out]
  by_cases n1 : (1048576 : Int) < (d.n : Int)
  · go_enter Try.func8, Try.ntmps8
    go_wp2
    go_ret
    exact ⟨Answers.mk false rfl (fun h => by cases h), rfl⟩
  by_cases n2 : (1048576 : Int) < (e.n : Int)
  · go_enter Try.func8, Try.ntmps8
    go_wp2
    go_ret
    exact ⟨Answers.mk false rfl (fun h => by cases h), rfl⟩
  by_cases n3 : (1048576 : Int) < (g.n : Int)
  · go_enter Try.func8, Try.ntmps8
    go_wp2
    go_ret
    exact ⟨Answers.mk false rfl (fun h => by cases h), rfl⟩
  by_cases n4 : (1048576 : Int) < 40 * (d.n : Int) + 24 * (e.n : Int) + 40 * (g.n : Int)
  · go_enter Try.func8, Try.ntmps8
    go_wp2
    go_ret
    exact ⟨Answers.mk false rfl (fun h => by cases h), rfl⟩
  go_enter Try.func8, Try.ntmps8
  go_wp2
  go_loopg [13, 14] d.n (fun q z i wr2 => wr2 = w ∧ ∃ (r : Nat) (x : Int), r ≤ d.n ∧ q = d.n - r ∧ i = .int .i64 r ∧ z = .int .i64 x ∧ 0 ≤ x ∧ x ≤ 1048576 ∧ x = (40 * (d.n : Int) + 24 * (e.n : Int) + 40 * (g.n : Int)) + 4 * (sumTo d.rl r : Int))
  case atStart => exact ⟨rfl, 0, _, Nat.zero_le _, rfl, rfl, rfl, by omega, by omega, by simp only [sumTo]; omega⟩
  case round =>
    obtain ⟨rfl, r, x, hr, rfl, rfl, rfl, hx0, hx1, hx⟩ := hrel
    have HX : Aside (x = (40 * (d.n : Int) + 24 * (e.n : Int) + 40 * (g.n : Int)) + 4 * (sumTo d.rl r : Int)) := hx
    clear hx
    by_cases hrG : r < d.n
    · have hrz : (r : Int) < (d.n : Int) := by omega
      obtain rfl : va = some ⟨m.b, m.o, none⟩ := Hva.out.symm.trans (hv.addr (by omega))
      have c0 := hv.cr r hrG
      have hL := hv.bl r hrG
      by_cases hL1 : (1048576 : Int) < (d.rl r : Int)
      · go_wp2
        go_ret
        exact ⟨Answers.mk false rfl (fun h => by cases h), rfl⟩
      by_cases hL2 : (1048576 : Int) < x + 4 * (d.rl r : Int)
      · go_wp2
        go_ret
        exact ⟨Answers.mk false rfl (fun h => by cases h), rfl⟩
      go_wp2
      go_roundg (d.n - (r + 1))
      case measure => go_light; omega
      case rel => go_light; exact ⟨rfl, r + 1, _, by omega, rfl, by simp, rfl, by omega, by omega, by have := HX.out; simp only [sumTo]; omega⟩
    · have hrz : ¬ (r : Int) < (d.n : Int) := by omega
      have er : r = d.n := by omega
      have HX2 : Aside (x = (40 * (d.n : Int) + 24 * (e.n : Int) + 40 * (g.n : Int)) + 4 * (sumTo d.rl d.n : Int)) := by have q := HX.out; rw [er] at q; exact q
      clear HX er
      have HX0 := HX2
      clear HX2
      go_wp2
      go_loopg [13, 15] e.n (fun q z i wr2 => wr2 = wr ∧ ∃ (r : Nat) (x : Int), r ≤ e.n ∧ q = e.n - r ∧ i = .int .i64 r ∧ z = .int .i64 x ∧ 0 ≤ x ∧ x ≤ 1048576 ∧ x = ((40 * (d.n : Int) + 24 * (e.n : Int) + 40 * (g.n : Int)) + 4 * (sumTo d.rl d.n : Int)) + 8 * (sumTo e.l r : Int))
      case atStart => exact ⟨rfl, 0, _, Nat.zero_le _, rfl, rfl, rfl, by omega, by omega, by have := HX0.out; simp only [sumTo]; omega⟩
      case round =>
        obtain ⟨rfl, r, x, hr, rfl, rfl, rfl, hx0, hx1, hx⟩ := hrel
        have HX : Aside (x = ((40 * (d.n : Int) + 24 * (e.n : Int) + 40 * (g.n : Int)) + 4 * (sumTo d.rl d.n : Int)) + 8 * (sumTo e.l r : Int)) := hx
        clear hx
        by_cases hrG : r < e.n
        · have hrz : (r : Int) < (e.n : Int) := by omega
          obtain rfl : wa = some ⟨f.b, f.o, none⟩ := Hwa.out.symm.trans (hw.addr (by omega))
          have c0 := hw.row r hrG
          have hL := hw.bl r hrG
          by_cases hL1 : (1048576 : Int) < (e.l r : Int)
          · go_wp2
            go_ret
            exact ⟨Answers.mk false rfl (fun h => by cases h), rfl⟩
          by_cases hL2 : (1048576 : Int) < x + 8 * (e.l r : Int)
          · go_wp2
            go_ret
            exact ⟨Answers.mk false rfl (fun h => by cases h), rfl⟩
          go_wp2
          go_roundg (e.n - (r + 1))
          case measure => go_light; omega
          case rel => go_light; exact ⟨rfl, r + 1, _, by omega, rfl, by simp, rfl, by omega, by omega, by have := HX.out; simp only [sumTo]; omega⟩
        · have hrz : ¬ (r : Int) < (e.n : Int) := by omega
          have er : r = e.n := by omega
          have HX2 : Aside (x = ((40 * (d.n : Int) + 24 * (e.n : Int) + 40 * (g.n : Int)) + 4 * (sumTo d.rl d.n : Int)) + 8 * (sumTo e.l e.n : Int)) := by have q := HX.out; rw [er] at q; exact q
          clear HX er
          have HX1 := HX2
          clear HX2
          go_wp2
          go_loopg [13, 16] g.n (fun q z i wr2 => wr2 = wr ∧ ∃ (r : Nat) (x : Int), r ≤ g.n ∧ q = g.n - r ∧ i = .int .i64 r ∧ z = .int .i64 x ∧ 0 ≤ x ∧ x ≤ 1048576 ∧ x = (((40 * (d.n : Int) + 24 * (e.n : Int) + 40 * (g.n : Int)) + 4 * (sumTo d.rl d.n : Int)) + 8 * (sumTo e.l e.n : Int)) + 4 * (sumTo g.sl r : Int))
          case atStart => exact ⟨rfl, 0, _, Nat.zero_le _, rfl, rfl, rfl, by omega, by omega, by have := HX1.out; simp only [sumTo]; omega⟩
          case round =>
            obtain ⟨rfl, r, x, hr, rfl, rfl, rfl, hx0, hx1, hx⟩ := hrel
            have HX : Aside (x = (((40 * (d.n : Int) + 24 * (e.n : Int) + 40 * (g.n : Int)) + 4 * (sumTo d.rl d.n : Int)) + 8 * (sumTo e.l e.n : Int)) + 4 * (sumTo g.sl r : Int)) := hx
            clear hx
            by_cases hrG : r < g.n
            · have hrz : (r : Int) < (g.n : Int) := by omega
              obtain rfl : ka = some ⟨k.b, k.o, none⟩ := Hka.out.symm.trans (hR.addr (by omega))
              have c0 := hR.cs r hrG
              have hL := hR.bl r hrG
              by_cases hL1 : (1048576 : Int) < (g.sl r : Int)
              · go_wp2
                go_ret
                exact ⟨Answers.mk false rfl (fun h => by cases h), rfl⟩
              by_cases hL2 : (1048576 : Int) < x + 4 * (g.sl r : Int)
              · go_wp2
                go_ret
                exact ⟨Answers.mk false rfl (fun h => by cases h), rfl⟩
              go_wp2
              go_roundg (g.n - (r + 1))
              case measure => go_light; omega
              case rel => go_light; exact ⟨rfl, r + 1, _, by omega, rfl, by simp, rfl, by omega, by omega, by have := HX.out; simp only [sumTo]; omega⟩
            · have hrz : ¬ (r : Int) < (g.n : Int) := by omega
              have er : r = g.n := by omega
              have HX2 : Aside (x = (((40 * (d.n : Int) + 24 * (e.n : Int) + 40 * (g.n : Int)) + 4 * (sumTo d.rl d.n : Int)) + 8 * (sumTo e.l e.n : Int)) + 4 * (sumTo g.sl g.n : Int)) := by have q := HX.out; rw [er] at q; exact q
              clear HX er
              go_wp2
              refine wp_loop_rounds 1 ?_
              rw [rounds_succ]
              go_wp2
              go_ret
              exact ⟨Answers.mk true rfl (fun _ => by have := HX2.out; exact (show _ ≤ _ by omega)), rfl⟩

end Go.Proofs.Qxb6601390a
