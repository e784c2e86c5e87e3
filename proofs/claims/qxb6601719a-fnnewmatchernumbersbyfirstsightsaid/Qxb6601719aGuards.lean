/-
  zzBytes_.. (14), zzLinesFit (15), zzLineAt (21), zzIntAt (22), zzBytesEqual (13), the matcher's readers (18, 19, 20): they only read.
-/
import Derived.Test.Qxb6601719aData
namespace Go.Proofs.Qxb6601719a
open Go.RowKit
set_option linter.unusedVariables false

set_option maxHeartbeats 400000 in
theorem bytes14 {w : World} {ga : Option Addr} {G Gc : Nat} {A : Nat → Option Addr} {L C RB RO : Nat → Nat} {X : Nat → Nat → UInt8} {gb go : Nat}
    (g : LinesAt w ga G A L C RB RO X gb go)
    {ga' : Option Addr} {G' Gc' : Nat} {A' : Nat → Option Addr} {L' C' RB' RO' : Nat → Nat} {X' : Nat → Nat → UInt8} {gb' go' : Nat}
    (g' : LinesAt w ga' G' A' L' C' RB' RO' X' gb' go') :
    Calls Try.prog 14 #[.slice ga G Gc, .slice ga' G' Gc'] w fun e w' => Answers (fun _ => True) e ∧ w' = w := by
  have hG := g.bdG
  have hG' := g'.bdG
  by_cases hG1 : (1048576 : Int) < (G : Int)
  · go_enter Try.func14, Try.ntmps14
    go_wp2
    go_ret
    exact ⟨Answers.mk _ rfl trivial, rfl⟩
  · go_enter Try.func14, Try.ntmps14
    go_wp2
    go_loopg [5, 6] G (fun k z i wr => wr = w ∧ ∃ (r : Nat) (x : Int), r ≤ G ∧ k = G - r ∧ i = .int .i64 r ∧ z = .int .i64 x ∧ 0 ≤ x ∧ x ≤ 1048576)
    case atStart => exact ⟨rfl, 0, _, Nat.zero_le _, rfl, rfl, rfl, by omega, by omega⟩
    case round =>
      obtain ⟨rfl, r, x, hr, rfl, rfl, rfl, hx0, hx1⟩ := hrel
      by_cases hrG : r < G
      · have hrz : (r : Int) < (G : Int) := by omega
        obtain rfl := g.ga (by omega)
        have c0 := g.row r hrG
        have hL := g.bdL r hrG
        clear g g'
        go_wp2
        · go_ret
          exact ⟨Answers.mk _ rfl trivial, rfl⟩
        · go_ret
          exact ⟨Answers.mk _ rfl trivial, rfl⟩
        · go_roundg (G - (r + 1))
          case measure => go_light; omega
          case rel => go_light; exact ⟨rfl, r + 1, _, by omega, rfl, by simp, rfl, by omega, by omega⟩
      · have hrz : ¬ (r : Int) < (G : Int) := by omega
        by_cases hG2 : (1048576 : Int) < (G' : Int)
        · go_wp2
          go_ret
          exact ⟨Answers.mk _ rfl trivial, rfl⟩
        by_cases hG3 : (1048576 : Int) < x + (G' : Int)
        · go_wp2
          go_ret
          exact ⟨Answers.mk _ rfl trivial, rfl⟩
        go_wp2
        go_loopg [5, 7] G' (fun k z i wr2 => wr2 = wr ∧ ∃ (r : Nat) (x : Int), r ≤ G' ∧ k = G' - r ∧ i = .int .i64 r ∧ z = .int .i64 x ∧ 0 ≤ x ∧ x ≤ 1048576)
        case atStart => exact ⟨rfl, 0, _, Nat.zero_le _, rfl, rfl, rfl, by omega, by omega⟩
        case round =>
          obtain ⟨rfl, r, x, hr, rfl, rfl, rfl, hx0, hx1⟩ := hrel
          by_cases hrG : r < G'
          · have hrz : (r : Int) < (G' : Int) := by omega
            obtain rfl := g'.ga (by omega)
            have c0 := g'.row r hrG
            have hL := g'.bdL r hrG
            clear g g'
            go_wp2
            · go_ret
              exact ⟨Answers.mk _ rfl trivial, rfl⟩
            · go_ret
              exact ⟨Answers.mk _ rfl trivial, rfl⟩
            · go_roundg (G' - (r + 1))
              case measure => go_light; omega
              case rel => go_light; exact ⟨rfl, r + 1, _, by omega, rfl, by simp, rfl, by omega, by omega⟩
          · have hrz : ¬ (r : Int) < (G' : Int) := by omega
            clear g g'
            go_wp2
            go_ret
            exact ⟨Answers.mk _ rfl trivial, rfl⟩

def FitL (G : Nat) (L : Nat → Nat) : Prop := ∀ r, r < G → L r ≤ 1048576

set_option maxHeartbeats 400000 in
theorem fit15 {w : World} {ga : Option Addr} {G Gc : Nat} {A : Nat → Option Addr} {L C RB RO : Nat → Nat} {X : Nat → Nat → UInt8} {gb go : Nat}
    (g : LinesAt w ga G A L C RB RO X gb go) (hG : G ≤ 4096)
    {ga' : Option Addr} {G' Gc' : Nat} {A' : Nat → Option Addr} {L' C' RB' RO' : Nat → Nat} {X' : Nat → Nat → UInt8} {gb' go' : Nat}
    (g' : LinesAt w ga' G' A' L' C' RB' RO' X' gb' go') (hG' : G' ≤ 4096) :
    Calls Try.prog 15 #[.slice ga G Gc, .slice ga' G' Gc'] w fun e w' => Answers (fun b => b = true → FitL G L ∧ FitL G' L') e ∧ w' = w := by
  have hs0 : ¬ (1048576 : Int) < 24 * ((G : Int) + (G' : Int)) := by omega
  go_enter Try.func15, Try.ntmps15
  go_wp2
  go_loopg [5, 6] G (fun k z i wr => wr = w ∧ ∃ (r : Nat) (x : Int), r ≤ G ∧ k = G - r ∧ i = .int .i64 r ∧ z = .int .i64 x ∧ 0 ≤ x ∧ x ≤ 1048576 ∧ FitL r L)
  case atStart => exact ⟨rfl, 0, _, Nat.zero_le _, rfl, rfl, rfl, by omega, by omega, fun _ h => absurd h (Nat.not_lt_zero _)⟩
  case round =>
    obtain ⟨rfl, r, x, hr, rfl, rfl, rfl, hx0, hx1, hx⟩ := hrel
    by_cases hrG : r < G
    · have hrz : (r : Int) < (G : Int) := by omega
      obtain rfl := g.ga (by omega)
      have c0 := g.row r hrG
      have hL := g.bdL r hrG
      clear g g'
      by_cases hL1 : (1048576 : Int) < (L r : Int)
      · go_wp2
        go_ret
        exact ⟨Answers.mk false rfl (fun h => by cases h), rfl⟩
      by_cases hL2 : (1048576 : Int) < x + (L r : Int)
      · go_wp2
        go_ret
        exact ⟨Answers.mk false rfl (fun h => by cases h), rfl⟩
      · go_wp2
        go_roundg (G - (r + 1))
        case measure => go_light; omega
        case rel =>
          go_light
          refine ⟨rfl, r + 1, _, by omega, rfl, by simp, rfl, by omega, by omega, fun j hj => ?_⟩
          by_cases e : j = r
          · subst e; omega
          · exact hx j (by omega)
    · have hrz : ¬ (r : Int) < (G : Int) := by omega
      obtain rfl : r = G := by omega
      go_wp2
      go_loopg [5, 7] G' (fun k z i wr2 => wr2 = wr ∧ ∃ (r : Nat) (x : Int), r ≤ G' ∧ k = G' - r ∧ i = .int .i64 r ∧ z = .int .i64 x ∧ 0 ≤ x ∧ x ≤ 1048576 ∧ FitL r L')
      case atStart => exact ⟨rfl, 0, _, Nat.zero_le _, rfl, rfl, rfl, by omega, by omega, fun _ h => absurd h (Nat.not_lt_zero _)⟩
      case round =>
        obtain ⟨rfl, r, x, hr, rfl, rfl, rfl, hx0, hx1, hx'⟩ := hrel
        by_cases hrG : r < G'
        · have hrz : (r : Int) < (G' : Int) := by omega
          obtain rfl := g'.ga (by omega)
          have c0 := g'.row r hrG
          have hL := g'.bdL r hrG
          clear g g'
          by_cases hL1 : (1048576 : Int) < (L' r : Int)
          · go_wp2
            go_ret
            exact ⟨Answers.mk false rfl (fun h => by cases h), rfl⟩
          by_cases hL2 : (1048576 : Int) < x + (L' r : Int)
          · go_wp2
            go_ret
            exact ⟨Answers.mk false rfl (fun h => by cases h), rfl⟩
          · go_wp2
            go_roundg (G' - (r + 1))
            case measure => go_light; omega
            case rel =>
              go_light
              refine ⟨rfl, r + 1, _, by omega, rfl, by simp, rfl, by omega, by omega, fun j hj => ?_⟩
              by_cases e : j = r
              · subst e; omega
              · exact hx' j (by omega)
        · have hrz : ¬ (r : Int) < (G' : Int) := by omega
          obtain rfl : r = G' := by omega
          clear g g'
          go_wp2
          go_ret
          exact ⟨Answers.mk true rfl trivial, rfl⟩

/-- The slice that zzLineAt answers. -/
def at3 {β : Type} (G : Nat) (f g : Nat → β) (p : Nat) : β := if p < G then f p else g (p - G)

set_option maxHeartbeats 400000 in
theorem line21 {w : World} {ga : Option Addr} {G Gc : Nat} {A : Nat → Option Addr} {L C RB RO : Nat → Nat} {X : Nat → Nat → UInt8} {gb go : Nat}
    (g : LinesAt w ga G A L C RB RO X gb go) (hG : G ≤ 4096)
    {ga' : Option Addr} {G' Gc' : Nat} {A' : Nat → Option Addr} {L' C' RB' RO' : Nat → Nat} {X' : Nat → Nat → UInt8} {gb' go' : Nat}
    (g' : LinesAt w ga' G' A' L' C' RB' RO' X' gb' go') (hG' : G' ≤ 4096) (p : Nat) (hp : p < G + G') :
    Calls Try.prog 21 #[.slice ga G Gc, .slice ga' G' Gc', .int .i64 p] w fun e w' => e = .returned (.slice (at3 G A A' p) (at3 G L L' p) (at3 G C C' p)) ∧ w' = w := by
  by_cases h : p < G
  · have hz : (p : Int) < (G : Int) := by omega
    obtain rfl := g.ga (by omega)
    have c0 := g.row p h
    clear g g'
    go_enter Try.func21, Try.ntmps21
    go_wp2
    go_ret
    simp [at3, h]
  · have hz : ¬ (p : Int) < (G : Int) := by omega
    obtain rfl := g'.ga (by omega)
    obtain ⟨q, rfl⟩ : ∃ q, p = G + q := ⟨p - G, by omega⟩
    have c0 := g'.row q (by omega)
    have hq : (q : Int) < (G' : Int) := by omega
    have hs : ((G + q : Nat) : Int) - (G : Int) = (q : Int) := by omega
    clear g g'
    go_enter Try.func21, Try.ntmps21
    go_wp2
    go_ret
    simp only [at3]
    rw [if_neg h, if_neg h, if_neg h]
    simp

set_option maxHeartbeats 400000 in
theorem int22 {w : World} {b b' G G' Gc Gc' : Nat} {t t' : TypeId} {N N' : Nat → Int} (g : w.rowIs b t G (fun j => .int .i64 (N j))) (hG : G ≤ 4096) (g' : w.rowIs b' t' G' (fun j => .int .i64 (N' j))) (hG' : G' ≤ 4096) (p : Nat) (hp : p < G + G') :
    Calls Try.prog 22 #[.slice (some ⟨b, 0, none⟩) G Gc, .slice (some ⟨b', 0, none⟩) G' Gc', .int .i64 p] w fun e w' => e = .returned (.int .i64 (at3 G N N' p)) ∧ w' = w := by
  by_cases h : p < G
  · have hz : (p : Int) < (G : Int) := by omega
    have c0 := g.cell h
    clear g g'
    go_enter Try.func22, Try.ntmps22
    go_wp2
    go_ret
    simp [at3, h]
  · have hz : ¬ (p : Int) < (G : Int) := by omega
    obtain ⟨q, rfl⟩ : ∃ q, p = G + q := ⟨p - G, by omega⟩
    have c0 := g'.cell (i := q) (by omega)
    have hq : (q : Int) < (G' : Int) := by omega
    have hs : ((G + q : Nat) : Int) - (G : Int) = (q : Int) := by omega
    clear g g'
    go_enter Try.func22, Try.ntmps22
    go_wp2
    go_ret
    simp only [at3]
    rw [if_neg h]
    simp

set_option maxHeartbeats 400000 in
theorem a18 {w : World} {b : Nat} {v : Value} (h : w.cell? ⟨b, 0, none⟩ = some v) : Calls Try.prog 18 #[.pointer (some ⟨b, 0, none⟩)] w fun e w' => e = .returned v ∧ w' = w := by
  go_enter Try.func18, Try.ntmps18
  go_wp2
  go_ret
  exact ⟨rfl, rfl⟩
set_option maxHeartbeats 400000 in
theorem b19 {w : World} {b : Nat} {v : Value} (h : w.cell? ⟨b, 1, none⟩ = some v) : Calls Try.prog 19 #[.pointer (some ⟨b, 0, none⟩)] w fun e w' => e = .returned v ∧ w' = w := by
  go_enter Try.func19, Try.ntmps19
  go_wp2
  go_ret
  exact ⟨rfl, rfl⟩
set_option maxHeartbeats 400000 in
theorem p20 {w : World} {b : Nat} {v : Value} (h : w.cell? ⟨b, 2, none⟩ = some v) : Calls Try.prog 20 #[.pointer (some ⟨b, 0, none⟩)] w fun e w' => e = .returned v ∧ w' = w := by
  go_enter Try.func20, Try.ntmps20
  go_wp2
  go_ret
  exact ⟨rfl, rfl⟩

end Go.Proofs.Qxb6601719a
