/-
  THE PLAIN MATHEMATICS OF THE LAW ON linkRuns.
-/
import Derived.Test.Qxb6601390aLData
namespace Go.Proofs.Qxb6601390a
open Go.RowKit Plain

def rrN (d : Vd) (i k : Nat) : Nat := (d.r i k).toNat
def vvN (e : Wd) (t j : Nat) : Nat := (e.v t j).toNat

/-- Every index that linkRuns takes is in range. -/
def DomV (d : Vd) (e : Wd) : Prop :=
  ∀ i, i < d.n → (0 ≤ d.nx i → d.nx i < (d.n : Int)) ∧ ∀ k, k < d.rl i → 0 ≤ d.r i k ∧ d.r i k < (e.n : Int) ∧ ∀ j, j < e.l (rrN d i k) → 0 ≤ e.v (rrN d i k) j ∧ e.v (rrN d i k) j < (d.n : Int)
theorem DomV.r {d : Vd} {e : Wd} (h : DomV d e) {i k : Nat} (hi : i < d.n) (hk : k < d.rl i) : d.r i k = (rrN d i k : Int) ∧ rrN d i k < e.n := by
  have := (h i hi).2 k hk
  simp only [rrN]; omega
theorem DomV.v {d : Vd} {e : Wd} (h : DomV d e) {i k j : Nat} (hi : i < d.n) (hk : k < d.rl i) (hj : j < e.l (rrN d i k)) : e.v (rrN d i k) j = (vvN e (rrN d i k) j : Int) ∧ vvN e (rrN d i k) j < d.n := by
  have := ((h i hi).2 k hk).2.2 j hj
  simp only [vvN]; omega

/-- The matches of version i among the first j writes of row t. -/
def rowM (d : Vd) (e : Wd) (i t : Nat) : Nat → List Nat
  | 0 => []
  | j + 1 => rowM d e i t j ++ (if d.it (vvN e t j) = d.it i then [vvN e t j] else [])
/-- .. among the rows of its first k readers. -/
def mTo (d : Vd) (e : Wd) (i : Nat) : Nat → List Nat
  | 0 => []
  | k + 1 => mTo d e i k ++ rowM d e i (rrN d i k) (e.l (rrN d i k))
def mt (d : Vd) (e : Wd) (i : Nat) : List Nat := mTo d e i (d.rl i)

theorem rowM_pre (d : Vd) (e : Wd) (i t : Nat) {a b : Nat} (h : a ≤ b) : ∃ x, rowM d e i t b = rowM d e i t a ++ x := by
  induction b with
  | zero => have : a = 0 := by omega
            subst this; exact ⟨[], by simp⟩
  | succ b ih =>
    by_cases g : a = b + 1
    · subst g; exact ⟨[], by simp⟩
    · obtain ⟨x, hx⟩ := ih (by omega)
      exact ⟨x ++ (if d.it (vvN e t b) = d.it i then [vvN e t b] else []), by rw [rowM, hx]; simp⟩
theorem mTo_pre (d : Vd) (e : Wd) (i : Nat) {a b : Nat} (h : a ≤ b) : ∃ x, mTo d e i b = mTo d e i a ++ x := by
  induction b with
  | zero => have : a = 0 := by omega
            subst this; exact ⟨[], by simp⟩
  | succ b ih =>
    by_cases g : a = b + 1
    · subst g; exact ⟨[], by simp⟩
    · obtain ⟨x, hx⟩ := ih (by omega)
      exact ⟨x ++ rowM d e i (rrN d i b) (e.l (rrN d i b)), by rw [mTo, hx]; simp⟩
/-- The matches found so far are the first of all. -/
theorem mt_pre (d : Vd) (e : Wd) (i : Nat) {k j : Nat} (hk : k < d.rl i) (hj : j ≤ e.l (rrN d i k)) : ∃ x, mt d e i = (mTo d e i k ++ rowM d e i (rrN d i k) j) ++ x := by
  obtain ⟨x, hx⟩ := mTo_pre d e i (a := k + 1) (b := d.rl i) hk
  obtain ⟨y, hy⟩ := rowM_pre d e i (rrN d i k) hj
  exact ⟨y ++ x, by rw [mt, hx, mTo, hy]; simp⟩

/-- A version's link behind the matches p. -/
def nextP (nx : Int) (p : List Nat) : Int := match p.getLast? with | some v => (v : Int) | none => nx
def clashP (nx : Int) (p : List Nat) : Bool := !p.isEmpty && (decide (0 ≤ nx) || decide (2 ≤ p.length))
def nextOf (d : Vd) (e : Wd) (i : Nat) : Int := nextP (d.nx i) (mt d e i)
def clashTo (d : Vd) (e : Wd) (i : Nat) : Bool := (List.range i).any fun i => clashP (d.nx i) (mt d e i)

theorem nextP_snoc (nx : Int) (p : List Nat) (v : Nat) : nextP nx (p ++ [v]) = (v : Int) := by simp [nextP]
theorem nextP_nil (nx : Int) : nextP nx [] = nx := rfl
theorem clashTo_succ (d : Vd) (e : Wd) (i : Nat) : clashTo d e (i + 1) = (clashTo d e i || clashP (d.nx i) (mt d e i)) := by simp [clashTo, List.range_succ]
/-- Forward: a match more. -/
theorem clashP_snoc (nx : Int) (p : List Nat) (v : Nat) : clashP nx (p ++ [v]) = (clashP nx p || decide (0 ≤ nextP nx p)) := by
  cases h : p.getLast? with
  | none =>
    have : p = [] := List.getLast?_eq_none_iff.1 h
    subst this
    by_cases g : 0 ≤ nx <;> simp [clashP, nextP, g]
  | some u =>
    have hne : p ≠ [] := by intro e; subst e; simp at h
    have hl : 1 ≤ p.length := List.length_pos_iff.2 hne
    have e1 : nextP nx p = (u : Int) := by simp [nextP, h]
    have e2 : decide (0 ≤ nextP nx p) = true := by rw [e1]; simp
    rw [e2, Bool.or_true]
    simp [clashP]
    omega

theorem rowM_mem (d : Vd) (e : Wd) (i t j : Nat) : ∀ v ∈ rowM d e i t j, ∃ k, k < j ∧ v = vvN e t k := by
  induction j with
  | zero => intro v hv; simp [rowM] at hv
  | succ j ih =>
    intro v hv
    simp only [rowM, List.mem_append] at hv
    rcases hv with hv | hv
    · obtain ⟨k, hk, rfl⟩ := ih v hv; exact ⟨k, by omega, rfl⟩
    · split at hv
      · simp at hv; exact ⟨j, by omega, hv⟩
      · simp at hv
theorem mTo_lt {d : Vd} {e : Wd} (h : DomV d e) {i : Nat} (hi : i < d.n) : ∀ k, k ≤ d.rl i → ∀ v ∈ mTo d e i k, v < d.n := by
  intro k
  induction k with
  | zero => intro _ v hv; simp [mTo] at hv
  | succ k ih =>
    intro hk v hv
    simp only [mTo, List.mem_append] at hv
    rcases hv with hv | hv
    · exact ih (by omega) v hv
    · obtain ⟨j, hj, rfl⟩ := rowM_mem _ _ _ _ _ v hv
      exact (h.v hi (by omega) hj).2
theorem nextOf_lt {d : Vd} {e : Wd} (h : DomV d e) {i : Nat} (hi : i < d.n) : nextOf d e i < (d.n : Int) ∨ nextOf d e i < 0 := by
  simp only [nextOf, nextP]
  cases hl : (mt d e i).getLast? with
  | none => have := (h i hi).1; simp only; omega
  | some v => left; have := mTo_lt h hi (d.rl i) (Nat.le_refl _) v (List.mem_of_getLast? hl); simp only; omega
theorem nextOf_lo {d : Vd} {e : Wd} {i : Nat} (hb : -2147483648 ≤ d.nx i) : -2147483648 ≤ nextOf d e i := by
  simp only [nextOf, nextP]
  cases (mt d e i).getLast? with
  | none => exact hb
  | some v => simp only; omega

/-! ### Chains -/
def itr (f : Nat → Nat) : Nat → Nat → Nat
  | 0, x => x
  | k + 1, x => itr f k (f x)
theorem itr_add (f : Nat → Nat) (a b x : Nat) : itr f (a + b) x = itr f b (itr f a x) := by
  induction a generalizing x with
  | zero => rw [Nat.zero_add]; rfl
  | succ a ih => rw [Nat.succ_add]; exact ih (f x)
theorem itr_succ (f : Nat → Nat) (a x : Nat) : itr f (a + 1) x = f (itr f a x) := by rw [itr_add]; rfl
theorem itr_fix {f : Nat → Nat} {x : Nat} (h : f x = x) (k : Nat) : itr f k x = x := by
  induction k with
  | zero => rfl
  | succ k ih => show itr f k (f x) = x; rw [h]; exact ih
/-- One link on, or stay. -/
def stepN (N : Nat → Int) (i : Nat) : Nat := if 0 ≤ N i then (N i).toNat else i
theorem stepN_lt {N : Nat → Int} {n : Nat} (h : ∀ i, i < n → N i < (n : Int)) {i : Nat} (hi : i < n) : stepN N i < n := by
  have := h i hi
  simp only [stepN]; split <;> omega
theorem itr_lt {N : Nat → Int} {n : Nat} (h : ∀ i, i < n → N i < (n : Int)) : ∀ (k i : Nat), i < n → itr (stepN N) k i < n := by
  intro k
  induction k with
  | zero => intro i hi; exact hi
  | succ k ih => intro i hi; exact ih _ (stepN_lt h hi)
theorem stepN_stop {N : Nat → Int} {i : Nat} (h : N i < 0) : stepN N i = i := by simp only [stepN]; rw [if_neg (by omega)]
/-- A chain that has ended by K has its end where it first ends. -/
theorem itr_end {N : Nat → Int} {i K k : Nat} (hk : N (itr (stepN N) k i) < 0) (hK : k ≤ K) : itr (stepN N) K i = itr (stepN N) k i := by
  obtain ⟨j, rfl⟩ : ∃ j, K = k + j := ⟨K - k, by omega⟩
  rw [itr_add, itr_fix (stepN_stop hk)]
/-- n ≤ 2^s, and no smaller exponent does. -/
def IsLog (n s : Nat) : Prop := n ≤ 2 ^ s ∧ ∀ t, t < s → 2 ^ t < n
theorem IsLog.uniq {n s t : Nat} (h : IsLog n s) (k : IsLog n t) : s = t := by
  rcases Nat.lt_trichotomy s t with g | g | g
  · have := k.2 s g; have := h.1; omega
  · exact g
  · have := h.2 t g; have := k.1; omega

def ledTo (N : Nat → Int) (i j : Nat) : Bool := (List.range i).any fun q => decide (N q = (j : Int))
theorem ledTo_succ (N : Nat → Int) (i j : Nat) : ledTo N (i + 1) j = (ledTo N i j || decide (N i = (j : Int))) := by simp [ledTo, List.range_succ]

end Go.Proofs.Qxb6601390a
