/-
  What the law on linkRuns calls besides: ZZMakeViewsForLinkRunsB1 (13), the readers (18, 24, 25, 19, 20, 22, 23, 52 .. 55), zzRunIs_b1 (26).
-/
import Derived.Test.Qxb6601390aLKeep
namespace Go.Proofs.Qxb6601390a
open Go.RowKit Plain
set_option linter.unusedVariables false

set_option maxHeartbeats 400000 in
theorem equal21d {w : World} {a b : Option Addr} {n ca cb ab ao bb bo : Nat} {X : Nat → Int} (hn : n ≤ 9223372036854775807) (hA : IntsAt .i32 w a n X ab ao) (hB : IntsAt .i32 w b n X bb bo) :
    Calls Try.prog 21 #[.slice a n ca, .slice b n cb] w fun e w' => e = .returned (.bool true) ∧ ∃ q, w' = w.drewN q := by
  have e0 : (((n : Int)) != (n : Int)) = false := by simp
  go_enter Try.func21, Try.ntmps21
  go_wp2
  go_loopg [5] n (fun k i wr => ∃ (r q : Nat), r ≤ n ∧ k = n - r ∧ i = .int .i64 r ∧ wr = w.drewN q)
  case atStart => exact ⟨0, 0, Nat.zero_le _, rfl, rfl, rfl⟩
  case round =>
    obtain ⟨r, q, hr, rfl, rfl, rfl⟩ := hrel
    by_cases hrn : r < n
    · have hrz : (r : Int) < (n : Int) := by omega
      obtain rfl := hA.addr (by omega)
      obtain rfl := hB.addr (by omega)
      have q1 := hA.cell r hrn
      have q2 := hB.cell r hrn
      have e1 : (X r != X r) = false := by simp
      go_wp2
      go_quiet (fail)
      go_wp2
      go_roundg (n - (r + 1))
      case measure => go_light; omega
      case rel => go_light; exact ⟨r + 1, _, by omega, rfl, by simp, rfl⟩
    · have hrz : ¬ (r : Int) < (n : Int) := by omega
      go_wp2
      go_ret
      exact ⟨rfl, _, rfl⟩

/-- The other cells of the views' variable. -/
def zV (q : Nat) : Value := if q = 10 then .bool false else .slice none 0 0

set_option maxHeartbeats 400000 in
theorem make13 (w : World) (va ra wa : Option Addr) (vn vc rn rc wn wc : Nat) (b : Bool) :
    Calls Try.prog 13 #[.slice va vn vc, .slice wa wn wc, .slice ra rn rc, .bool b] w fun e w' => e = .returned (.pointer (some ⟨w.heap.size, 0, none⟩)) ∧ w' = w.alloc (.cells #[.slice none 0 0, .slice va vn vc, .slice none 0 0, .slice ra rn rc, .slice none 0 0, .slice none 0 0, .slice wa wn wc, .slice none 0 0, .slice none 0 0, .slice none 0 0, .bool false, .bool b] 89) := by
  go_enter Try.func13, Try.ntmps13
  go_wp2
  go_ret
  exact ⟨rfl, rfl⟩
theorem vw_made (w : World) (V R W I : Value) : (w.alloc (.cells #[.slice none 0 0, V, .slice none 0 0, R, .slice none 0 0, .slice none 0 0, W, .slice none 0 0, .slice none 0 0, .slice none 0 0, .bool false, I] 89)).rowIs w.heap.size 89 12 (vwCell zV V R W I) := by
  refine World.rowIs_alloc w #[.slice none 0 0, V, .slice none 0 0, R, .slice none 0 0, .slice none 0 0, W, .slice none 0 0, .slice none 0 0, .slice none 0 0, .bool false, I] 89 (vwCell zV V R W I) (fun i hi => ?_)
  have hi' : i < 12 := hi
  have : i = 0 ∨ i = 1 ∨ i = 2 ∨ i = 3 ∨ i = 4 ∨ i = 5 ∨ i = 6 ∨ i = 7 ∨ i = 8 ∨ i = 9 ∨ i = 10 ∨ i = 11 := by omega
  rcases this with rfl | rfl | rfl | rfl | rfl | rfl | rfl | rfl | rfl | rfl | rfl | rfl <;> rfl

set_option maxHeartbeats 400000 in
theorem vers18 {w : World} {b : Nat} {v : Value} (h : w.cell? ⟨b, 1, none⟩ = some v) : Calls Try.prog 18 #[.pointer (some ⟨b, 0, none⟩)] w fun e w' => e = .returned v ∧ w' = w := by
  go_enter Try.func18, Try.ntmps18
  go_wp2
  go_ret
  exact ⟨rfl, rfl⟩
set_option maxHeartbeats 400000 in
theorem imp24 {w : World} {b : Nat} {v : Value} (h : w.cell? ⟨b, 11, none⟩ = some v) : Calls Try.prog 24 #[.pointer (some ⟨b, 0, none⟩)] w fun e w' => e = .returned v ∧ w' = w := by
  go_enter Try.func24, Try.ntmps24
  go_wp2
  go_ret
  exact ⟨rfl, rfl⟩
set_option maxHeartbeats 400000 in
theorem runs25 {w : World} {b : Nat} {v : Value} (h : w.cell? ⟨b, 3, none⟩ = some v) : Calls Try.prog 25 #[.pointer (some ⟨b, 0, none⟩)] w fun e w' => e = .returned v ∧ w' = w := by
  go_enter Try.func25, Try.ntmps25
  go_wp2
  go_ret
  exact ⟨rfl, rfl⟩

set_option maxHeartbeats 400000 in
theorem get19 (x y z : Int) (a : Option Addr) (n c : Nat) (w : World) :
    Calls Try.prog 19 #[.agg #[.int .i32 x, .int .i32 y, .slice a n c, .int .i32 z]] w fun e w' => e = .returned (.int .i32 x) ∧ w' = w.alloc (.cells #[.int .i32 x, .int .i32 y, .slice a n c, .int .i32 z] 46) := by
  go_enter Try.func19, Try.ntmps19
  go_wp2
  go_ret
  exact ⟨rfl, rfl⟩
set_option maxHeartbeats 400000 in
theorem get20 (x y z : Int) (a : Option Addr) (n c : Nat) (w : World) :
    Calls Try.prog 20 #[.agg #[.int .i32 x, .int .i32 y, .slice a n c, .int .i32 z]] w fun e w' => e = .returned (.int .i32 y) ∧ w' = w.alloc (.cells #[.int .i32 x, .int .i32 y, .slice a n c, .int .i32 z] 46) := by
  go_enter Try.func20, Try.ntmps20
  go_wp2
  go_ret
  exact ⟨rfl, rfl⟩
set_option maxHeartbeats 400000 in
theorem get22 (x y z : Int) (a : Option Addr) (n c : Nat) (w : World) :
    Calls Try.prog 22 #[.agg #[.int .i32 x, .int .i32 y, .slice a n c, .int .i32 z]] w fun e w' => e = .returned (.slice a n c) ∧ w' = w.alloc (.cells #[.int .i32 x, .int .i32 y, .slice a n c, .int .i32 z] 46) := by
  go_enter Try.func22, Try.ntmps22
  go_wp2
  go_ret
  exact ⟨rfl, rfl⟩
set_option maxHeartbeats 400000 in
theorem get23 (x y z : Int) (a : Option Addr) (n c : Nat) (w : World) :
    Calls Try.prog 23 #[.agg #[.int .i32 x, .int .i32 y, .slice a n c, .int .i32 z]] w fun e w' => e = .returned (.int .i32 z) ∧ w' = w.alloc (.cells #[.int .i32 x, .int .i32 y, .slice a n c, .int .i32 z] 46) := by
  go_enter Try.func23, Try.ntmps23
  go_wp2
  go_ret
  exact ⟨rfl, rfl⟩
set_option maxHeartbeats 400000 in
theorem get52 (x y z : Int) (a : Option Addr) (n c : Nat) (w : World) :
    Calls Try.prog 52 #[.agg #[.int .i32 x, .int .i32 y, .int .i32 z, .slice a n c]] w fun e w' => e = .returned (.int .i32 x) ∧ w' = w.alloc (.cells #[.int .i32 x, .int .i32 y, .int .i32 z, .slice a n c] 56) := by
  go_enter Try.func52, Try.ntmps52
  go_wp2
  go_ret
  exact ⟨rfl, rfl⟩
set_option maxHeartbeats 400000 in
theorem get53 (x y z : Int) (a : Option Addr) (n c : Nat) (w : World) :
    Calls Try.prog 53 #[.agg #[.int .i32 x, .int .i32 y, .int .i32 z, .slice a n c]] w fun e w' => e = .returned (.int .i32 y) ∧ w' = w.alloc (.cells #[.int .i32 x, .int .i32 y, .int .i32 z, .slice a n c] 56) := by
  go_enter Try.func53, Try.ntmps53
  go_wp2
  go_ret
  exact ⟨rfl, rfl⟩
set_option maxHeartbeats 400000 in
theorem get54 (x y z : Int) (a : Option Addr) (n c : Nat) (w : World) :
    Calls Try.prog 54 #[.agg #[.int .i32 x, .int .i32 y, .int .i32 z, .slice a n c]] w fun e w' => e = .returned (.int .i32 z) ∧ w' = w.alloc (.cells #[.int .i32 x, .int .i32 y, .int .i32 z, .slice a n c] 56) := by
  go_enter Try.func54, Try.ntmps54
  go_wp2
  go_ret
  exact ⟨rfl, rfl⟩
set_option maxHeartbeats 400000 in
theorem get55 (x y z : Int) (a : Option Addr) (n c : Nat) (w : World) :
    Calls Try.prog 55 #[.agg #[.int .i32 x, .int .i32 y, .int .i32 z, .slice a n c]] w fun e w' => e = .returned (.slice a n c) ∧ w' = w.alloc (.cells #[.int .i32 x, .int .i32 y, .int .i32 z, .slice a n c] 56) := by
  go_enter Try.func55, Try.ntmps55
  go_wp2
  go_ret
  exact ⟨rfl, rfl⟩

/-- Five boxes of one run. -/
def five (w : World) (o : Obj) : World := ((((w.alloc o).alloc o).alloc o).alloc o).alloc o

set_option maxHeartbeats 400000 in
set_option maxRecDepth 100000 in
theorem run26 {w : World} (x y z : Int) {a b : Option Addr} {n ca cb ab ao bb bo : Nat} {X : Nat → Int} (hn : n ≤ 9223372036854775807) (hA : IntsAt .i32 w a n X ab ao) (hB : IntsAt .i32 w b n X bb bo) :
    Calls Try.prog 26 #[.agg #[.int .i32 x, .int .i32 y, .int .i32 z, .slice a n ca], .int .i32 x, .int .i32 y, .int .i32 z, .slice b n cb] w fun e w' => e = .returned (.bool true) ∧ ∃ q, w' = (five w (.cells #[.int .i32 x, .int .i32 y, .int .i32 z, .slice a n ca] 56)).drewN q := by
  have e0 : (x != x) = false := by simp
  have e1 : (y != y) = false := by simp
  have e2 : (z != z) = false := by simp
  go_enter Try.func26, Try.ntmps26
  go_wp2_with fail
  refine (get52 _ _ _ _ _ _ _).mono ?_
  rintro e w1 ⟨rfl, rfl⟩
  go_wp2_with fail
  refine (get53 _ _ _ _ _ _ _).mono ?_
  rintro e w1 ⟨rfl, rfl⟩
  go_wp2_with fail
  refine (get54 _ _ _ _ _ _ _).mono ?_
  rintro e w1 ⟨rfl, rfl⟩
  go_wp2_with fail
  refine (get55 _ _ _ _ _ _ _).mono ?_
  rintro e w1 ⟨rfl, rfl⟩
  go_wp2_with fail
  have s1 := (World.Since.refl w.heap.size w).alloc (Nat.le_refl _) (.cells #[.int .i32 x, .int .i32 y, .int .i32 z, .slice a n ca] 56)
  have s2 := s1.alloc s1.size (.cells #[.int .i32 x, .int .i32 y, .int .i32 z, .slice a n ca] 56)
  have s3 := s2.alloc s2.size (.cells #[.int .i32 x, .int .i32 y, .int .i32 z, .slice a n ca] 56)
  have s4 := s3.alloc s3.size (.cells #[.int .i32 x, .int .i32 y, .int .i32 z, .slice a n ca] 56)
  have s5 := s4.alloc s4.size (.cells #[.int .i32 x, .int .i32 y, .int .i32 z, .slice a n ca] 56)
  refine (equal21d hn (hA.later s5 (Nat.le_refl _)) (hB.later s5 (Nat.le_refl _))).mono ?_
  rintro e w1 ⟨rfl, q, rfl⟩
  go_wp2
  go_ret
  exact ⟨rfl, q, rfl⟩

end Go.Proofs.Qxb6601390a
