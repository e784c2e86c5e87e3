/-
  THE GUARDS OF THE DIGRAPH LAWS: zzBytes_.. (35, 45), zzArcBytesFit_b1 (36), zzDigraphDomain_b1 (37): they only read.
-/
import Derived.Test.Qxb6601390aGrid
namespace Go.Proofs.Qxb6601390a
open Go.RowKit

def DomOK (n : Int) (G : Nat) (L : Nat → Nat) (T : Nat → Nat → Int) : Prop := 0 ≤ n ∧ n ≤ 65536 ∧ ∀ r c, r < G → c < L r → 0 ≤ T r c ∧ T r c < n
def FitOK (G : Nat) (L : Nat → Nat) : Prop := 24 * G + 12 * sumTo L G ≤ 1048576

def SizeOK (G : Nat) (L : Nat → Nat) : Prop := G ≤ 1048576 ∧ sumTo L G ≤ 1048576
theorem FitOK.size {G : Nat} {L : Nat → Nat} (h : FitOK G L) : SizeOK G L := by unfold FitOK at h; exact ⟨by omega, by omega⟩

set_option maxHeartbeats 400000 in
theorem bytes35 (n : Int) {w : World} {ga : Option Addr} {G Gc : Nat} {A : Nat → Option Addr} {L C RB RO : Nat → Nat} {T H I : Nat → Nat → Int} {gb go : Nat}
    (g : GridAt w ga G A L C RB RO T H I gb go) :
    Calls Try.prog 35 #[.int .i64 n, .slice ga G Gc] w fun e w' => Answers (fun _ => True) e ∧ w' = w := by
  have hG := g.bdG
  by_cases hG1 : (1048576 : Int) < (G : Int)
  · go_enter Try.func35, Try.ntmps35
    go_wp2
    go_ret
    exact ⟨Answers.mk _ rfl trivial, rfl⟩
  · go_enter Try.func35, Try.ntmps35
    go_wp2
    go_loopg [5, 6] G (fun k z i wr => wr = w ∧ ∃ (r : Nat) (x : Int), r ≤ G ∧ k = G - r ∧ i = .int .i64 r ∧ z = .int .i64 x ∧ 0 ≤ x ∧ x ≤ 1048576)
    case atStart => exact ⟨rfl, 0, _, Nat.zero_le _, rfl, rfl, rfl, by omega, by omega⟩
    case round =>
      obtain ⟨rfl, r, x, hr, rfl, rfl, rfl, hx0, hx1⟩ := hrel
      by_cases hrG : r < G
      · have hrz : (r : Int) < (G : Int) := by omega
        obtain rfl := g.ga (by omega)
        have c0 := g.row r hrG
        have hL := g.bdL r hrG
        clear g
        go_wp2
        · go_ret
          exact ⟨Answers.mk _ rfl trivial, rfl⟩
        · go_ret
          exact ⟨Answers.mk _ rfl trivial, rfl⟩
        · go_roundg (G - (r + 1))
          case measure => go_light; omega
          case rel => go_light; exact ⟨rfl, r + 1, _, by omega, rfl, by simp, rfl, by omega, by omega⟩
      · have hrz : ¬ (r : Int) < (G : Int) := by omega
        go_wp2
        go_ret
        exact ⟨Answers.mk _ rfl trivial, rfl⟩

set_option maxHeartbeats 400000 in
theorem bytes45 (n : Int) {w : World} {ga : Option Addr} {G Gc : Nat} {A : Nat → Option Addr} {L C RB RO : Nat → Nat} {T H I : Nat → Nat → Int} {gb go : Nat}
    (g : GridAt w ga G A L C RB RO T H I gb go) :
    Calls Try.prog 45 #[.int .i64 n, .slice ga G Gc] w fun e w' => Answers (fun _ => True) e ∧ w' = w := by
  have hG := g.bdG
  by_cases hG1 : (1048576 : Int) < (G : Int)
  · go_enter Try.func45, Try.ntmps45
    go_wp2
    go_ret
    exact ⟨Answers.mk _ rfl trivial, rfl⟩
  · go_enter Try.func45, Try.ntmps45
    go_wp2
    go_loopg [5, 6] G (fun k z i wr => wr = w ∧ ∃ (r : Nat) (x : Int), r ≤ G ∧ k = G - r ∧ i = .int .i64 r ∧ z = .int .i64 x ∧ 0 ≤ x ∧ x ≤ 1048576)
    case atStart => exact ⟨rfl, 0, _, Nat.zero_le _, rfl, rfl, rfl, by omega, by omega⟩
    case round =>
      obtain ⟨rfl, r, x, hr, rfl, rfl, rfl, hx0, hx1⟩ := hrel
      by_cases hrG : r < G
      · have hrz : (r : Int) < (G : Int) := by omega
        obtain rfl := g.ga (by omega)
        have c0 := g.row r hrG
        have hL := g.bdL r hrG
        clear g
        go_wp2
        · go_ret
          exact ⟨Answers.mk _ rfl trivial, rfl⟩
        · go_ret
          exact ⟨Answers.mk _ rfl trivial, rfl⟩
        · go_roundg (G - (r + 1))
          case measure => go_light; omega
          case rel => go_light; exact ⟨rfl, r + 1, _, by omega, rfl, by simp, rfl, by omega, by omega⟩
      · have hrz : ¬ (r : Int) < (G : Int) := by omega
        go_wp2
        go_ret
        exact ⟨Answers.mk _ rfl trivial, rfl⟩

set_option maxHeartbeats 400000 in
theorem fit36 {w : World} {ga : Option Addr} {G Gc : Nat} {A : Nat → Option Addr} {L C RB RO : Nat → Nat} {T H I : Nat → Nat → Int} {gb go : Nat}
    (g : GridAt w ga G A L C RB RO T H I gb go) :
    Calls Try.prog 36 #[.slice ga G Gc] w fun e w' => Answers (fun b => b = true → FitOK G L) e ∧ w' = w := by
  have hG := g.bdG
  by_cases hG1 : (1048576 : Int) < (G : Int)
  · go_enter Try.func36, Try.ntmps36
    go_wp2
    go_ret
    exact ⟨Answers.mk false rfl (fun h => by cases h), rfl⟩
  by_cases hG2 : (1048576 : Int) < 24 * (G : Int)
  · go_enter Try.func36, Try.ntmps36
    go_wp2
    go_ret
    exact ⟨Answers.mk false rfl (fun h => by cases h), rfl⟩
  · go_enter Try.func36, Try.ntmps36
    go_wp2
    go_loopg [3, 4] G (fun k z i wr => wr = w ∧ ∃ (r : Nat) (x : Int), r ≤ G ∧ k = G - r ∧ i = .int .i64 r ∧ z = .int .i64 x ∧ 0 ≤ x ∧ x ≤ 1048576 ∧ x = 24 * (G : Int) + 12 * (sumTo L r : Int))
    case atStart => exact ⟨rfl, 0, _, Nat.zero_le _, rfl, rfl, rfl, by omega, by omega, by simp [sumTo]⟩
    case round =>
      obtain ⟨rfl, r, x, hr, rfl, rfl, rfl, hx0, hx1, hx⟩ := hrel
      have HX : Aside (x = 24 * (G : Int) + 12 * (sumTo L r : Int)) := hx
      clear hx
      by_cases hrG : r < G
      · have hrz : (r : Int) < (G : Int) := by omega
        obtain rfl := g.ga (by omega)
        have c0 := g.row r hrG
        have hL := g.bdL r hrG
        clear g
        by_cases hL1 : (1048576 : Int) < (L r : Int)
        · go_wp2
          go_ret
          exact ⟨Answers.mk false rfl (fun h => by cases h), rfl⟩
        by_cases hL2 : (1048576 : Int) < x + 12 * (L r : Int)
        · go_wp2
          go_ret
          exact ⟨Answers.mk false rfl (fun h => by cases h), rfl⟩
        · go_wp2
          go_roundg (G - (r + 1))
          case measure => go_light; omega
          case rel => go_light; exact ⟨rfl, r + 1, _, by omega, rfl, by simp, rfl, by omega, by omega, by have := HX.out; simp only [sumTo]; omega⟩
      · have hrz : ¬ (r : Int) < (G : Int) := by omega
        go_wp2
        go_ret
        exact ⟨Answers.mk true rfl (fun _ => by have := HX.out; have : r = G := by omega
                                                subst this; exact (show _ ≤ _ by omega)), rfl⟩

set_option maxHeartbeats 400000 in
theorem domain37 (n : Int) {w : World} {ga : Option Addr} {G Gc : Nat} {A : Nat → Option Addr} {L C RB RO : Nat → Nat} {T H I : Nat → Nat → Int} {gb go : Nat}
    (g : GridAt w ga G A L C RB RO T H I gb go) :
    Calls Try.prog 37 #[.int .i64 n, .slice ga G Gc] w fun e w' => Answers (fun b => b = true → DomOK n G L T) e ∧ w' = w := by
  have hG := g.bdG
  by_cases hn0 : n < 0
  · go_enter Try.func37, Try.ntmps37
    go_wp2
    go_ret
    exact ⟨Answers.mk false rfl (fun h => by cases h), rfl⟩
  by_cases hn1 : 65536 < n
  · go_enter Try.func37, Try.ntmps37
    go_wp2
    go_ret
    exact ⟨Answers.mk false rfl (fun h => by cases h), rfl⟩
  · go_enter Try.func37, Try.ntmps37
    go_wp2
    go_loopg [5] G (fun k i wr => wr = w ∧ ∃ (r : Nat), r ≤ G ∧ k = G - r ∧ i = .int .i64 r ∧ ∀ r' c, r' < r → c < L r' → 0 ≤ T r' c ∧ T r' c < n)
    case atStart => exact ⟨rfl, 0, Nat.zero_le _, rfl, rfl, fun _ _ h => absurd h (Nat.not_lt_zero _)⟩
    case round =>
      obtain ⟨rfl, r, hr, rfl, rfl, hall⟩ := hrel
      have HA : Aside (∀ r' c, r' < r → c < L r' → 0 ≤ T r' c ∧ T r' c < n) := hall
      clear hall
      by_cases hrG : r < G
      · have hrz : (r : Int) < (G : Int) := by omega
        obtain rfl := g.ga (by omega)
        have c0 := g.row r hrG
        obtain ⟨ar, HAr⟩ : ∃ ar, Aside (A r = ar) := ⟨_, rfl⟩
        rw [HAr.out] at c0
        have hL := g.bdL r hrG
        go_wp2
        clear c0
        go_loopg [7] (L r) (fun k i wr2 => wr2 = wr ∧ ∃ (c : Nat), c ≤ L r ∧ k = L r - c ∧ i = .int .i64 c ∧ ∀ c', c' < c → 0 ≤ T r c' ∧ T r c' < n)
        case atStart => exact ⟨rfl, 0, Nat.zero_le _, rfl, rfl, fun _ h => absurd h (Nat.not_lt_zero _)⟩
        case round =>
          obtain ⟨rfl, c, hc, rfl, rfl, hall⟩ := hrel
          have HB : Aside (∀ c', c' < c → 0 ≤ T r c' ∧ T r c' < n) := hall
          clear hall
          by_cases hcL : c < L r
          · have hcz : (c : Int) < (L r : Int) := by omega
            obtain rfl : ar = some ⟨RB r, RO r, none⟩ := HAr.out.symm.trans (g.addr r hrG c hcL)
            have ct := g.tail r hrG c hcL
            obtain ⟨b1, b2⟩ := g.bdT r c hrG hcL
            clear g
            by_cases t0 : T r c < 0
            · go_wp2
              go_ret
              exact ⟨Answers.mk false rfl (fun h => by cases h), rfl⟩
            by_cases t1 : n ≤ T r c
            · go_wp2
              go_ret
              exact ⟨Answers.mk false rfl (fun h => by cases h), rfl⟩
            · go_wp2
              go_roundg (L r - (c + 1))
              case measure => go_light; omega
              case rel =>
                go_light
                refine ⟨rfl, c + 1, by omega, rfl, by simp, fun c' hc' => ?_⟩
                by_cases e : c' = c
                · subst e; omega
                · exact HB.out c' (by omega)
          · have hcz : ¬ (c : Int) < (L r : Int) := by omega
            clear g
            go_wp2
            go_roundg (G - (r + 1))
            case measure => go_light; omega
            case rel =>
              go_light
              refine ⟨rfl, r + 1, by omega, rfl, by simp, fun r' c' hr' hc' => ?_⟩
              by_cases e : r' = r
              · subst e; exact HB.out c' (by omega)
              · exact HA.out r' c' (by omega) hc'
      · have hrz : ¬ (r : Int) < (G : Int) := by omega
        clear g
        go_wp2
        go_ret
        exact ⟨Answers.mk true rfl (fun _ => ⟨by omega, by omega, fun r' c h1 h2 => HA.out r' c (by omega) h2⟩), rfl⟩

end Go.Proofs.Qxb6601390a
