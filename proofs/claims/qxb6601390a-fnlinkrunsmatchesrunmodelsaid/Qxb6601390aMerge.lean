/-
  THE PLAIN MATHEMATICS OF A STABLE MERGE SORT BY A KEY: no Go in sight.
-/
namespace Go.Proofs.Qxb6601390a.Plain

/-- The places of l whose key is v, in their order. -/
def pickN (τ : Nat → Int) (l : List Nat) (v : Nat) : List Nat := l.filter fun p => τ p == (v : Int)
/-- l, sorted stably by the keys 0, 1, .., n - 1. -/
def bk (τ : Nat → Int) (l : List Nat) : Nat → List Nat
  | 0 => []
  | v + 1 => bk τ l v ++ pickN τ l v
def mg (τ : Nat → Int) (xs ys : List Nat) : List Nat := List.merge xs ys (fun a b => decide (τ a ≤ τ b))

theorem mg_nil_left (τ : Nat → Int) (ys : List Nat) : mg τ [] ys = ys := by simp [mg]
theorem mg_nil_right (τ : Nat → Int) (xs : List Nat) : mg τ xs [] = xs := by simp [mg]
theorem mg_pos (τ : Nat → Int) (x y : Nat) (xs ys : List Nat) (h : τ x ≤ τ y) : mg τ (x :: xs) (y :: ys) = x :: mg τ xs (y :: ys) := by simp [mg, h]
theorem mg_neg (τ : Nat → Int) (x y : Nat) (xs ys : List Nat) (h : ¬ τ x ≤ τ y) : mg τ (x :: xs) (y :: ys) = y :: mg τ (x :: xs) ys := by simp [mg, h]

theorem mg_same (τ : Nat → Int) (v : Int) (P Q : List Nat) (hP : ∀ p ∈ P, τ p = v) (hQ : ∀ q ∈ Q, τ q = v) : mg τ P Q = P ++ Q := by
  induction P with
  | nil => exact mg_nil_left τ Q
  | cons p P ih =>
    cases Q with
    | nil => rw [mg_nil_right]; simp
    | cons q Q =>
      rw [mg_pos τ p q P Q (by rw [hP p (by simp), hQ q (by simp)]; exact Int.le_refl _), ih (fun x hx => hP x (by simp [hx]))]
      rfl

theorem mg_parts (τ : Nat → Int) (v : Int) (P Q : List Nat) (hP : ∀ p ∈ P, τ p = v) (hQ : ∀ q ∈ Q, τ q = v) : ∀ (k : Nat) (A B : List Nat), A.length + B.length = k → (∀ a ∈ A, τ a < v) → (∀ b ∈ B, τ b < v) →
    mg τ (A ++ P) (B ++ Q) = mg τ A B ++ (P ++ Q) := by
  intro k
  induction k with
  | zero =>
    intro A B h _ _
    have hA : A = [] := List.length_eq_zero_iff.1 (by omega)
    have hB : B = [] := List.length_eq_zero_iff.1 (by omega)
    subst hA; subst hB
    rw [mg_nil_left]
    exact mg_same τ v P Q hP hQ
  | succ k ih =>
    intro A B h hA hB
    cases A with
    | nil =>
      cases B with
      | nil => simp at h
      | cons b B =>
        rw [mg_nil_left]
        cases P with
        | nil => rw [List.append_nil, mg_nil_left]; simp
        | cons p P =>
          have hb : τ b < v := hB b (by simp)
          have hp : τ p = v := hP p (by simp)
          have := ih [] B (by simp at h ⊢; omega) (by simp) (fun x hx => hB x (by simp [hx]))
          rw [mg_nil_left] at this
          simp only [List.nil_append, List.cons_append] at this ⊢
          rw [mg_neg τ p b P (B ++ Q) (by omega), this]
    | cons a A =>
      have ha : τ a < v := hA a (by simp)
      cases B with
      | nil =>
        cases Q with
        | nil => simp [mg_nil_right]
        | cons q Q =>
          have hq : τ q = v := hQ q (by simp)
          have := ih A [] (by simp at h ⊢; omega) (fun x hx => hA x (by simp [hx])) (by simp)
          rw [mg_nil_right] at this ⊢
          simp only [List.nil_append, List.cons_append] at this ⊢
          rw [mg_pos τ a q (A ++ P) Q (by omega), this]
      | cons b B =>
        by_cases hab : τ a ≤ τ b
        · have := ih A (b :: B) (by simp at h ⊢; omega) (fun x hx => hA x (by simp [hx])) hB
          simp only [List.cons_append] at this ⊢
          rw [mg_pos τ a b (A ++ P) (B ++ Q) hab, mg_pos τ a b A B hab, this]; rfl
        · have := ih (a :: A) B (by simp at h ⊢; omega) hA (fun x hx => hB x (by simp [hx]))
          simp only [List.cons_append] at this ⊢
          rw [mg_neg τ a b (A ++ P) (B ++ Q) hab, mg_neg τ a b A B hab, this]; rfl

theorem pickN_key (τ : Nat → Int) (l : List Nat) (v : Nat) : ∀ p ∈ pickN τ l v, τ p = (v : Int) := by
  intro p hp
  simp only [pickN, List.mem_filter, beq_iff_eq] at hp
  exact hp.2
theorem bk_lt (τ : Nat → Int) (l : List Nat) (n : Nat) : ∀ p ∈ bk τ l n, τ p < (n : Int) := by
  induction n with
  | zero => intro p hp; simp [bk] at hp
  | succ n ih =>
    intro p hp
    simp only [bk, List.mem_append] at hp
    rcases hp with hp | hp
    · have := ih p hp; omega
    · have := pickN_key τ l n p hp; omega

/-- MERGING TWO SORTED LISTS SORTS THEIR JOIN. -/
theorem mg_bk (τ : Nat → Int) (l1 l2 : List Nat) (n : Nat) : mg τ (bk τ l1 n) (bk τ l2 n) = bk τ (l1 ++ l2) n := by
  induction n with
  | zero => simp [bk, mg_nil_left]
  | succ n ih =>
    simp only [bk]
    rw [mg_parts τ n _ _ (pickN_key τ l1 n) (pickN_key τ l2 n) _ _ _ rfl (bk_lt τ l1 n) (bk_lt τ l2 n), ih]
    simp [pickN]

theorem bk_nil (τ : Nat → Int) (n : Nat) : bk τ [] n = [] := by
  induction n with
  | zero => rfl
  | succ n ih => simp [bk, ih, pickN]
theorem bk_one (τ : Nat → Int) (p n : Nat) (h0 : 0 ≤ τ p) (hn : τ p < (n : Int)) : bk τ [p] n = [p] := by
  have key : ∀ m : Nat, bk τ [p] m = if τ p < (m : Int) then [p] else [] := by
    intro m
    induction m with
    | zero => simp [bk]; omega
    | succ m ih =>
      simp only [bk, ih, pickN, List.filter_cons, List.filter_nil, beq_iff_eq]
      by_cases e : τ p = (m : Int)
      · rw [if_neg (by omega), if_pos e, if_pos (by omega)]; rfl
      · by_cases e2 : τ p < (m : Int)
        · rw [if_pos e2, if_neg e, if_pos (by omega)]; simp
        · rw [if_neg e2, if_neg e, if_neg (by omega)]; simp
  rw [key, if_pos hn]

/-- The places a, .., b - 1 of X. -/
def seg (X : Nat → Nat) (a b : Nat) : List Nat := (List.range' a (b - a)).map X
theorem seg_nil (X : Nat → Nat) {a b : Nat} (h : b ≤ a) : seg X a b = [] := by
  have : b - a = 0 := by omega
  simp [seg, this]
theorem seg_cons (X : Nat → Nat) {a b : Nat} (h : a < b) : seg X a b = X a :: seg X (a + 1) b := by
  have : b - a = (b - (a + 1)) + 1 := by omega
  simp [seg, this, List.range'_succ]
theorem seg_congr {X Y : Nat → Nat} {a b : Nat} (h : ∀ i, a ≤ i → i < b → X i = Y i) : seg X a b = seg Y a b := by
  simp only [seg]
  apply List.map_congr_left
  intro i hi
  rw [List.mem_range'] at hi
  obtain ⟨j, hj, rfl⟩ := hi
  exact h _ (by omega) (by omega)
theorem seg_snoc (X : Nat → Nat) {a b : Nat} (h : a ≤ b) : seg X a (b + 1) = seg X a b ++ [X b] := by
  have : b + 1 - a = (b - a) + 1 := by omega
  simp only [seg, this, List.range'_concat, List.map_append, List.map_cons, List.map_nil]
  congr 3; omega
theorem seg_id (a b : Nat) : seg (fun i => i) a b = List.range' a (b - a) := by simp [seg]

/-- Each block of 'w' places of X is the sorted list of those very places. -/
def Sorted (τ : Nat → Int) (N n w : Nat) (X : Nat → Nat) (lim : Nat) : Prop :=
  ∀ s, s * w < lim → seg X (s * w) (min (s * w + w) n) = bk τ (List.range' (s * w) (min (s * w + w) n - s * w)) N

theorem sorted_one (τ : Nat → Int) (N n : Nat) (h : ∀ p, p < n → 0 ≤ τ p ∧ τ p < (N : Int)) : Sorted τ N n 1 (fun i => i) n := by
  intro s hs
  have e : min (s * 1 + 1) n - s * 1 = 1 := by omega
  rw [seg_id, e]
  have := h (s * 1) hs
  rw [show List.range' (s * 1) 1 = [s * 1] from rfl, bk_one τ _ N this.1 this.2]

/-- One merge more. -/
theorem sorted_step {τ : Nat → Int} {N n w : Nat} {X Y Y' : Nat → Nat} {s : Nat} (hX : Sorted τ N n w X n) (hlo : s * (2 * w) < n) (hY : Sorted τ N n (2 * w) Y (s * (2 * w)))
    (hkeep : ∀ i, i < s * (2 * w) → Y' i = Y i)
    (hnew : seg Y' (s * (2 * w)) (min (s * (2 * w) + 2 * w) n) = mg τ (seg X (s * (2 * w)) (min (s * (2 * w) + w) n)) (seg X (min (s * (2 * w) + w) n) (min (s * (2 * w) + 2 * w) n))) :
    Sorted τ N n (2 * w) Y' ((s + 1) * (2 * w)) := by
  intro u hu
  have hu' : u < s + 1 := Nat.lt_of_mul_lt_mul_right hu
  by_cases e : u = s
  · subst e
    rw [hnew]
    have e1 : u * (2 * w) = (2 * u) * w := by rw [← Nat.mul_assoc, Nat.mul_comm u 2]
    have h1 := hX (2 * u) (by rw [← e1]; exact hlo)
    rw [← e1] at h1
    by_cases hm : u * (2 * w) + w < n
    · have e2 : (2 * u + 1) * w = u * (2 * w) + w := by rw [Nat.add_mul, ← e1]; omega
      have h2 := hX (2 * u + 1) (by rw [e2]; exact hm)
      rw [e2] at h2
      have m1 : min (u * (2 * w) + w) n = u * (2 * w) + w := by omega
      have m2 : u * (2 * w) + w + w = u * (2 * w) + 2 * w := by omega
      rw [m2] at h2
      rw [m1] at h1 ⊢
      rw [h1, h2, mg_bk]
      congr 1
      have a1 : u * (2 * w) + w - u * (2 * w) = w := by omega
      rw [a1]
      have a2 : min (u * (2 * w) + 2 * w) n - u * (2 * w) = w + (min (u * (2 * w) + 2 * w) n - (u * (2 * w) + w)) := by omega
      rw [a2, ← List.range'_append_1]
    · have m1 : min (u * (2 * w) + w) n = n := by omega
      have m2 : min (u * (2 * w) + 2 * w) n = n := by omega
      rw [m1] at h1 ⊢
      rw [m2, h1, seg_nil X (Nat.le_refl n), mg_nil_right]
  · have hlt : u < s := by omega
    have hb : u * (2 * w) + 2 * w ≤ s * (2 * w) := by
      have : (u + 1) * (2 * w) ≤ s * (2 * w) := Nat.mul_le_mul_right _ hlt
      rw [Nat.add_mul] at this; omega
    have hw : u * (2 * w) < s * (2 * w) := by
      by_cases hz : w = 0
      · subst hz; simp at hu
      · omega
    rw [seg_congr (X := Y') (Y := Y) (fun i _ hi => hkeep i (by omega))]
    exact hY u hw

theorem sorted_lim {τ : Nat → Int} {N n w : Nat} {X : Nat → Nat} {lim : Nat} (h : Sorted τ N n w X lim) (hl : n ≤ lim) : Sorted τ N n w X n := fun s hs => h s (by omega)

theorem sorted_end {τ : Nat → Int} {N n w : Nat} {X : Nat → Nat} (h : Sorted τ N n w X n) (hw : n ≤ w) : seg X 0 n = bk τ (List.range n) N := by
  by_cases hn : n = 0
  · subst hn; simp [seg_nil, bk_nil]
  · have := h 0 (by omega)
    rw [Nat.zero_mul, Nat.zero_add, show min w n = n by omega] at this
    rw [this, List.range_eq_range']
    rfl

end Go.Proofs.Qxb6601390a.Plain
