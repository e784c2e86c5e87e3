/-
  newMatcher (34), ZZNewMatcher (17).
-/
import Derived.Test.Qxb6601719aNumber
namespace Go.Proofs.Qxb6601719a
open Go.RowKit Go.Maps Go.WideMaps
set_option linter.unusedVariables false

/-- WHAT newMatcher LEAVES. -/
def Matched (w w' : World) (e : Ending) (G G' : Nat) (K : Nat → List UInt8) : Prop :=
  ∃ pb ha hb, e = .returned (.pointer (some ⟨pb, 0, none⟩)) ∧ w'.cell? ⟨pb, 0, none⟩ = some (.slice (some ⟨ha, 0, none⟩) G G) ∧ w'.cell? ⟨pb, 1, none⟩ = some (.slice (some ⟨hb, 0, none⟩) G' G') ∧ w'.cell? ⟨pb, 2, none⟩ = some (.slice none 0 0) ∧
    w.Since w.heap.size w' ∧ w'.rowIs ha 3 G (fun j => .int .i64 (num K j : Int)) ∧ w'.rowIs hb 3 G' (fun j => .int .i64 (num K (G + j) : Int))

set_option maxRecDepth 100000 in
set_option maxHeartbeats 800000 in
theorem new34 {w : World} {ga : Option Addr} {G Gc : Nat} {A : Nat → Option Addr} {L C RB RO : Nat → Nat} {X : Nat → Nat → UInt8} {gb go : Nat}
    (g : LinesAt w ga G A L C RB RO X gb go) (hG : G ≤ 4096) (hfit : FitL G L)
    {ga' : Option Addr} {G' Gc' : Nat} {A' : Nat → Option Addr} {L' C' RB' RO' : Nat → Nat} {X' : Nat → Nat → UInt8} {gb' go' : Nat}
    (g' : LinesAt w ga' G' A' L' C' RB' RO' X' gb' go') (hG' : G' ≤ 4096) (hfit' : FitL G' L') :
    Calls Try.prog 34 #[.slice ga G Gc, .slice ga' G' Gc'] w fun e w' => Matched w w' e G G' (both G L X L' X') := by
  obtain ⟨K, HK⟩ : ∃ K, Aside (both G L X L' X' = K) := ⟨_, rfl⟩
  rw [HK.out]
  have hmm : ∀ w : World, (Instr.makeMap 52 none).run Try.prog w = .ok (.map (some w.heap.size)) (w.alloc (.map #[] 0)) := fun w => rfl
  go_enter Try.func34, Try.ntmps34
  go_wp2_with fail
  obtain ⟨w0, Hw0⟩ : ∃ w0, Aside ((w.alloc (Obj.map #[] 0)).alloc (Obj.cells #[Value.map (some w.heap.size)] 52) = w0) := ⟨_, rfl⟩
  rw [Hw0.out]
  have sn0 : w.Since w.heap.size w0 := by
    rw [← Hw0.out]
    have s1 := (World.Since.refl w.heap.size w).alloc (Nat.le_refl _) (Obj.map #[] 0)
    exact s1.alloc s1.size _
  have z0 : w0.heap.size = w.heap.size + 2 := by rw [← Hw0.out]; simp
  have own0 : Owns w0 w.heap.size 0 (.map []) := by
    rw [← Hw0.out]
    exact (World.ownsMap_made w Try.prog 9 (plainElem Try.prog 3)).alloc _
  have cp0 : w0.cell? ⟨w.heap.size + 1, 0, none⟩ = some (.map (some w.heap.size)) := by rw [← Hw0.out]; simp
  have gA := g.later sn0 (Nat.le_refl _)
  have gB := g'.later sn0 (Nat.le_refl _)
  have hKA : ∀ r, r < G → K (0 + r) = ln L X r := fun r hr => by rw [← HK.out, Nat.zero_add, both, if_pos hr]
  have hKB : ∀ r, r < G' → K (0 + G + r) = ln L' X' r := fun r hr => by
    rw [← HK.out, Nat.zero_add, both, if_neg (by omega)]
    congr 1
    omega
  clear g g' hmm
  refine (number37 gA hG hfit cp0 own0 (by omega) (Seen.start K) (by omega) hKA).mono ?_
  rintro e w1 ⟨h1, rfl, hh1, gr1, row1, n1, D1, hn1, own1, seen1⟩
  obtain ⟨es, clock, hmap, _⟩ := id own0
  have gB1 := gB.but hmap gr1
  have cp1 : w1.cell? ⟨w.heap.size + 1, 0, none⟩ = some (.map (some w.heap.size)) := gr1.cell cp0 (by simp)
  clear gA gB hKA hmap
  go_wp2_with fail
  refine (number37 gB1 hG' hfit' cp1 own1 (by omega) seen1 (by omega) hKB).mono ?_
  rintro e w2 ⟨h2, rfl, hh2, gr2, row2, n2, D2, hn2, own2, seen2⟩
  have s2 : w.Since w.heap.size w2 := by
    refine sn0.trans ⟨by rw [gr2.os, gr1.os], by rw [gr2.tape, gr1.tape], by rw [gr2.output, gr1.output], Nat.le_trans gr1.size gr2.size, fun i hi => ?_⟩
    rw [gr2.block i (by have := gr1.size; omega) (by simp; omega), gr1.block i (by omega) (by simp; omega)]
  have row1' : w2.rowIs h1 3 G (fun j => .int .i64 (num K (0 + j) : Int)) := row1.of_block (gr2.block _ row1.lt (by simp; omega))
  clear gB1 hKB own1 own2 seen1 seen2 gr1 gr2 row1
  go_wp2
  go_ret
  refine ⟨_, h1, h2, rfl, by simp, by simp, by simp, ?_, ?_, ?_⟩
  · exact s2.alloc s2.size _
  · exact (row1'.alloc _).congr (fun j _ => by rw [Nat.zero_add])
  · exact (row2.alloc _).congr (fun j _ => by rw [Nat.zero_add])

set_option maxHeartbeats 400000 in
theorem new17 {w : World} {ga : Option Addr} {G Gc : Nat} {A : Nat → Option Addr} {L C RB RO : Nat → Nat} {X : Nat → Nat → UInt8} {gb go : Nat}
    (g : LinesAt w ga G A L C RB RO X gb go) (hG : G ≤ 4096) (hfit : FitL G L)
    {ga' : Option Addr} {G' Gc' : Nat} {A' : Nat → Option Addr} {L' C' RB' RO' : Nat → Nat} {X' : Nat → Nat → UInt8} {gb' go' : Nat}
    (g' : LinesAt w ga' G' A' L' C' RB' RO' X' gb' go') (hG' : G' ≤ 4096) (hfit' : FitL G' L') :
    Calls Try.prog 17 #[.slice ga G Gc, .slice ga' G' Gc'] w fun e w' => Matched w w' e G G' (both G L X L' X') := by
  go_enter Try.func17, Try.ntmps17
  go_wp2_with fail
  refine (new34 g hG hfit g' hG' hfit').mono ?_
  rintro e w' ⟨pb, ha, hb, rfl, h⟩
  go_wp2
  go_ret
  exact ⟨pb, ha, hb, rfl, h⟩

end Go.Proofs.Qxb6601719a
