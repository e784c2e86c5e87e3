/-
  'copy(dst, src)' into a row of the call's own ('rowIs'), src whatever cells (the same row too): what it leaves, said by the index.
-/
import Derived.Deep.OwnRows
import Derived.Laws.CopyOwn
namespace Go.Proofs.Qxb6601390a
open Go.RowKit

/-- w' IS w BUT FOR THE BLOCK g. -/
structure OnlyRow (w w' : World) (g : Nat) : Prop where
  os : w'.os = w.os
  tape : w'.tape = w.tape
  output : w'.output = w.output
  size : w'.heap.size = w.heap.size
  block : ∀ k, k ≠ g → w'.heap[k]? = w.heap[k]?

theorem OnlyRow.since {B g : Nat} {w0 w w' : World} (h : OnlyRow w w' g) (s : w0.Since B w) (hg : B ≤ g) : w0.Since B w' :=
  s.trans ⟨h.os, h.tape, h.output, by rw [h.size]; exact Nat.le_refl _, fun k hk => h.block k (by omega)⟩

/-- The content behind the copy of m cells 'c' to place 'off'. -/
def copied (f c : Nat → Value) (off m i : Nat) : Value := if off ≤ i ∧ i < off + m then c (i - off) else f i

theorem run_copy_rowIs {P : Program} (w : World) (dT sT ty elem : TypeId) (g off dLen dCap sg so sLen sCap : Nat) (t : TypeId) (n m : Nat) (f c : Nat → Value)
    (hu : P.underlying dT = some (.slice elem)) (hs : (P.info? elem).map (·.size) = some 1) (hg : w.rowIs g t n f) (hm : m = Nat.min sLen dLen)
    (hsrc : ∀ j, j < m → w.cell? ⟨sg, so + j, none⟩ = some (c j)) (hfit : off + m ≤ n) (h1 : ∀ j, j < m → (c j).oneCell' = true) :
    ∃ w', (Builtin.copy_ #[dT, sT] ty #[.slice (some ⟨g, off, none⟩) dLen dCap, .slice (some ⟨sg, so, none⟩) sLen sCap]).run P w = .ok (goInt m) w' ∧ OnlyRow w w' g ∧ w'.rowIs g t n (copied f c off m) := by
  obtain ⟨cur, hb, hn, hc⟩ := hg
  have hr := run_copy_row P w dT sT ty elem g off dLen dCap ⟨sg, so, none⟩ sLen sCap cur t ((List.range m).map c) hu hs hb (by simpa using hm)
    (fun j v hj => by
      simp only [List.getElem?_map] at hj
      by_cases h : j < m
      · rw [List.getElem?_range h] at hj
        simp only [Option.map_some, Option.some.injEq] at hj
        subst hj
        rw [show (⟨sg, so, none⟩ : Addr).add j = ⟨sg, so + j, none⟩ from by simp [Addr.add]]
        exact hsrc j h
      · rw [List.getElem?_eq_none (by simp; omega)] at hj
        simp at hj)
    (by simp; omega) (fun v hv => by
      simp only [List.mem_map, List.mem_range] at hv
      obtain ⟨j, hj, rfl⟩ := hv
      exact h1 j hj)
  rw [List.length_map, List.length_range] at hr
  refine ⟨_, hr, ⟨rfl, rfl, rfl, by simp [World.setRow], fun k hk => setRow_other w g k _ hk⟩, _, setRow_heap w g cur _ t _ hb, ?_, fun i hi => ?_⟩
  · simp; omega
  · simp only [copied]
    rw [List.getElem?_toArray, List.append_assoc]
    by_cases a : i < off
    · rw [List.getElem?_append_left (by simp; omega), List.getElem?_take_of_lt a, if_neg (by omega)]
      rw [Array.getElem?_toList]
      exact hc i hi
    · rw [List.getElem?_append_right (by simp; omega)]
      have e : min off cur.toList.length = off := by simp; omega
      rw [List.length_take, e]
      by_cases b : i < off + m
      · rw [List.getElem?_append_left (by simp; omega), if_pos ⟨by omega, b⟩]
        simp only [List.getElem?_map]
        rw [List.getElem?_range (by omega)]
        rfl
      · rw [List.getElem?_append_right (by simp; omega), if_neg (by omega)]
        simp only [List.length_map, List.length_range, List.getElem?_drop]
        rw [show off + m + (i - off - m) = i by omega, Array.getElem?_toList]
        exact hc i hi

/-- THE SAME AS ONE STEP OF A REGION THAT DRAWS ITS ORDER. -/
theorem step_copy_rowIs {P : Program} {ops : Array Oper} {o : Oper} {a : Act} {w : World} {K : Act → World → Prop} {Q : Exit → Act → World → Prop} {E : Prop} (hgd : o.guard = none) (d s : Operand) (dT sT : TypeId)
    (ho : o.op = .call { callee := .builtin .copy, args := #[d, s], argTypes := #[dT, sT] }) (elem : TypeId) (hu : P.underlying dT = some (.slice elem)) (hsz : (P.info? elem).map (·.size) = some 1)
    (g off dLen dCap sg so sLen sCap : Nat) (hd : a.eval d = .slice (some ⟨g, off, none⟩) dLen dCap) (hs : a.eval s = .slice (some ⟨sg, so, none⟩) sLen sCap)
    (t : TypeId) (n m : Nat) (f c : Nat → Value) (hg : w.rowIs g t n f) (hm : m = Nat.min sLen dLen)
    (hsrc : ∀ j, j < m → w.cell? ⟨sg, so + j, none⟩ = some (c j)) (hfit : off + m ≤ n) (h1 : ∀ j, j < m → (c j).oneCell' = true)
    (h : ∀ w', OnlyRow w w' g → w'.rowIs g t n (copied f c off m) → K (a.put o.dst (goInt m)) w') :
    if Region.wanted o (yielded ops a.tmps) = true then Oper.wp P o a w K Q else E := by
  have hw : Region.wanted o (yielded ops a.tmps) = true := by simp [Region.wanted, hgd]
  rw [if_pos hw]
  obtain ⟨w', hrun, h2, h3⟩ := run_copy_rowIs (P := P) w dT sT o.type elem g off dLen dCap sg so sLen sCap t n m f c hu hsz hg hm hsrc hfit h1
  unfold Oper.wp
  simp [execOp, ho, resolve, invoke, builtin, hd, hs, hrun, Result.andThen]
  exact h w' h2 h3

/-- .. and as a step of a plain list of operations. -/
theorem wpList_copy_rowIs {P : Program} {w : World} {ops : Array Oper} {rest : List Oper} {o : Oper} {a : Act} {Q : Exit → Act → World → Prop} (hgd : o.guard = none) (d s : Operand) (dT sT : TypeId)
    (ho : o.op = .call { callee := .builtin .copy, args := #[d, s], argTypes := #[dT, sT] }) (elem : TypeId) (hu : P.underlying dT = some (.slice elem)) (hsz : (P.info? elem).map (·.size) = some 1)
    (g off dLen dCap sg so sLen sCap : Nat) (hd : a.eval d = .slice (some ⟨g, off, none⟩) dLen dCap) (hs : a.eval s = .slice (some ⟨sg, so, none⟩) sLen sCap)
    (t : TypeId) (n m : Nat) (f c : Nat → Value) (hg : w.rowIs g t n f) (hm : m = Nat.min sLen dLen)
    (hsrc : ∀ j, j < m → w.cell? ⟨sg, so + j, none⟩ = some (c j)) (hfit : off + m ≤ n) (h1 : ∀ j, j < m → (c j).oneCell' = true)
    (h : ∀ w', OnlyRow w w' g → w'.rowIs g t n (copied f c off m) → wpList P ops Q rest (a.put o.dst (goInt m)) w') :
    wpList P ops Q (o :: rest) a w := by
  refine wpList_plain hgd fun K hK => ?_
  obtain ⟨w', hrun, h2, h3⟩ := run_copy_rowIs (P := P) w dT sT o.type elem g off dLen dCap sg so sLen sCap t n m f c hu hsz hg hm hsrc hfit h1
  unfold Oper.wp
  simp [execOp, ho, resolve, invoke, builtin, hd, hs, hrun, Result.andThen]
  exact hK _ _ (h w' h2 h3)

end Go.Proofs.Qxb6601390a
