/-
  THE PLAIN MATHEMATICS OF THE DIGRAPH LAWS: no Go in sight. Arcs are triples (tail, head, item); a counting sort by tail.
-/
namespace Go.Proofs.Qxb6601390a.Plain

abbrev Arc := Int × Int × Int

/-- The arcs with tail v, in their order. -/
def pick (l : List Arc) (v : Nat) : List Arc := l.filter fun a => a.1 == (v : Int)
def cnt (l : List Arc) (v : Nat) : Nat := (pick l v).length
/-- How many arcs have a tail below v. -/
def cum (l : List Arc) : Nat → Nat
  | 0 => 0
  | v + 1 => cum l v + cnt l v
/-- The arcs, sorted stably by their tails 0, 1, .., n - 1. -/
def bucket (l : List Arc) : Nat → List Arc
  | 0 => []
  | v + 1 => bucket l v ++ pick l v

theorem pick_append (l k : List Arc) (v : Nat) : pick (l ++ k) v = pick l v ++ pick k v := by simp [pick]
theorem pick_one (a : Arc) (v : Nat) : pick [a] v = if a.1 = (v : Int) then [a] else [] := by
  simp only [pick, List.filter_cons, List.filter_nil, beq_iff_eq]
theorem cnt_snoc (l : List Arc) (a : Arc) (v : Nat) : cnt (l ++ [a]) v = cnt l v + if a.1 = (v : Int) then 1 else 0 := by
  simp only [cnt, pick_append, pick_one, List.length_append]
  split <;> simp
theorem cnt_append (l k : List Arc) (v : Nat) : cnt (l ++ k) v = cnt l v + cnt k v := by simp [cnt, pick_append]

theorem length_bucket (l : List Arc) (n : Nat) : (bucket l n).length = cum l n := by
  induction n with
  | zero => rfl
  | succ n ih => simp [bucket, cum, cnt, ih]

theorem cum_mono (l : List Arc) {u v : Nat} (h : u ≤ v) : cum l u ≤ cum l v := by
  induction v with
  | zero => have : u = 0 := by omega
            subst this; exact Nat.le_refl _
  | succ v ih =>
    by_cases e : u = v + 1
    · subst e; exact Nat.le_refl _
    · have := ih (by omega); simp only [cum]; omega
theorem cum_one (l : List Arc) {v n : Nat} (h : v < n) : cum l v + cnt l v ≤ cum l n := cum_mono l (u := v + 1) h

/-- All tails lie in [0, n). -/
def InR (l : List Arc) (n : Nat) : Prop := ∀ a ∈ l, 0 ≤ a.1 ∧ a.1 < (n : Int)

theorem cum_snoc (l : List Arc) (a : Arc) (n : Nat) (h0 : 0 ≤ a.1) (hn : a.1 < (n : Int)) : cum (l ++ [a]) n = cum l n + 1 := by
  have key : ∀ m : Nat, cum (l ++ [a]) m = cum l m + if a.1 < (m : Int) then 1 else 0 := by
    intro m
    induction m with
    | zero => simp [cum]; omega
    | succ m ih =>
      simp only [cum, ih, cnt_snoc]
      by_cases e : a.1 = (m : Int)
      · rw [if_pos e, if_neg (by omega), if_pos (by omega)]; omega
      · by_cases e2 : a.1 < (m : Int)
        · rw [if_pos e2, if_neg e, if_pos (by omega)]; omega
        · rw [if_neg e2, if_neg e, if_neg (by omega)]; omega
  rw [key, if_pos hn]

theorem snoc_ind {α : Type} {p : List α → Prop} (h0 : p []) (h1 : ∀ l a, p l → p (l ++ [a])) (l : List α) : p l := by
  have : ∀ n, ∀ l : List α, l.length = n → p l := by
    intro n
    induction n with
    | zero => intro l hl; have : l = [] := List.length_eq_zero_iff.1 hl
              subst this; exact h0
    | succ n ih =>
      intro l hl
      have hne : l ≠ [] := by intro e; subst e; simp at hl
      rw [← List.dropLast_concat_getLast hne]
      exact h1 _ _ (ih _ (by simp [hl]))
  exact this _ l rfl

theorem cum_nil (n : Nat) : cum [] n = 0 := by
  induction n with
  | zero => rfl
  | succ n ih => simp [cum, ih, cnt, pick]

theorem cum_le (l : List Arc) (n : Nat) : cum l n ≤ l.length := by
  have key : ∀ m : Nat, ∀ (l : List Arc), cum l m ≤ l.length := by
    intro m l
    refine snoc_ind (p := fun l => cum l m ≤ l.length) (by simp [cum_nil]) (fun l a ih => ?_) l
    have hs : cum (l ++ [a]) m ≤ cum l m + 1 := by
      by_cases h : 0 ≤ a.1 ∧ a.1 < (m : Int)
      · rw [cum_snoc l a m h.1 h.2]; exact Nat.le_refl _
      · have : ∀ k, k ≤ m → cum (l ++ [a]) k = cum l k := by
          intro k hk
          induction k with
          | zero => rfl
          | succ k ih => simp only [cum, cnt_snoc, ih (by omega)]; rw [if_neg (by omega)]; rfl
        rw [this m (Nat.le_refl _)]; omega
    simp; omega
  exact key n l

theorem cum_all (l : List Arc) (n : Nat) : InR l n → cum l n = l.length := by
  refine snoc_ind (p := fun l => InR l n → cum l n = l.length) (fun _ => by simp [cum_nil]) (fun l a ih h => ?_) l
  have ha := h a (by simp)
  rw [cum_snoc l a n ha.1 ha.2, ih (fun x hx => h x (by simp [hx]))]
  simp

/-- The bucket of v begins at 'cum l v'. -/
theorem bucket_get (l : List Arc) (n v j : Nat) (hv : v < n) (hj : j < cnt l v) : (bucket l n)[cum l v + j]? = (pick l v)[j]? := by
  induction n with
  | zero => omega
  | succ n ih =>
    simp only [bucket]
    by_cases e : v = n
    · subst e
      rw [List.getElem?_append_right (by rw [length_bucket]; omega), length_bucket]
      congr 1; omega
    · have hlt : cum l v + j < cum l n := by have := cum_one l (v := v) (n := n) (by omega); omega
      rw [List.getElem?_append_left (by rw [length_bucket]; exact hlt)]
      exact ih (by omega)

/-- Each place below 'cum l n' lies in one bucket. -/
theorem in_bucket (l : List Arc) (n q : Nat) (hq : q < cum l n) : ∃ v j, v < n ∧ j < cnt l v ∧ q = cum l v + j := by
  induction n with
  | zero => simp [cum] at hq
  | succ n ih =>
    by_cases h : q < cum l n
    · obtain ⟨v, j, h1, h2, h3⟩ := ih h
      exact ⟨v, j, by omega, h2, h3⟩
    · exact ⟨n, q - cum l n, by omega, by simp only [cum] at hq; omega, by omega⟩

/-- Two places in buckets are one only where bucket and place in it are one. -/
theorem bucket_inj (l : List Arc) {u v i j : Nat} (hi : i < cnt l u) (hj : j < cnt l v) (h : cum l u + i = cum l v + j) : u = v ∧ i = j := by
  by_cases e : u = v
  · subst e; exact ⟨rfl, by omega⟩
  · exfalso
    rcases Nat.lt_or_gt_of_ne e with g | g
    · have := cum_one l (v := u) (n := v) g; omega
    · have := cum_one l (v := v) (n := u) g; omega

/-- WHAT THE PLACING LOOP HAS LAID behind the arcs 'l', the places reckoned for all the arcs 'all'. -/
def Placed (all : List Arc) (fld : Arc → Int) (l : List Arc) (Hs : Nat → Int) : Prop := ∀ v j a, (pick l v)[j]? = some a → Hs (cum all v + j) = fld a

theorem placed_nil (all : List Arc) (fld : Arc → Int) (Hs : Nat → Int) : Placed all fld [] Hs := fun v j a h => by simp [pick] at h

theorem lt_of_get {α : Type} {l : List α} {j : Nat} {a : α} (h : l[j]? = some a) : j < l.length := by
  obtain ⟨hlt, _⟩ := List.getElem?_eq_some_iff.1 h
  exact hlt

theorem placed_step {all l rest : List Arc} {a : Arc} {fld : Arc → Int} {Hs : Nat → Int} {t : Nat} (hall : all = l ++ a :: rest) (ht : a.1 = (t : Int)) (h : Placed all fld l Hs) :
    Placed all fld (l ++ [a]) (fun q => if q = cum all t + cnt l t then fld a else Hs q) := by
  intro v j b hb
  have hle : ∀ u, cnt (l ++ [a]) u ≤ cnt all u := fun u => by
    have : all = (l ++ [a]) ++ rest := by simp [hall]
    rw [this, cnt_append (l ++ [a]) rest]; omega
  have htc : cnt l t < cnt all t := by
    have := hle t
    rw [cnt_snoc, if_pos ht] at this; omega
  have hj : j < cnt (l ++ [a]) v := lt_of_get hb
  have hjv := hle v
  rw [pick_append, pick_one] at hb
  by_cases e : v = t
  · subst e
    rw [if_pos ht] at hb
    by_cases ej : j = cnt l v
    · subst ej
      rw [List.getElem?_append_right (by exact Nat.le_refl _)] at hb
      simp [cnt] at hb
      simp [hb]
    · have hlt : j < cnt l v := by rw [cnt_snoc, if_pos ht] at hj; omega
      rw [List.getElem?_append_left (by exact hlt)] at hb
      show (if cum all v + j = cum all v + cnt l v then fld a else Hs (cum all v + j)) = fld b
      rw [if_neg (by omega)]
      exact h v j b hb
  · rw [if_neg (by rw [ht]; omega), List.append_nil] at hb
    have hlt : j < cnt l v := lt_of_get hb
    show (if cum all v + j = cum all t + cnt l t then fld a else Hs (cum all v + j)) = fld b
    rw [if_neg]
    · exact h v j b hb
    · intro heq
      exact e (bucket_inj all (by omega) htc heq).1

theorem placed_all {all : List Arc} {fld : Arc → Int} {Hs : Nat → Int} {n : Nat} (h : Placed all fld all Hs) (q : Nat) (hq : q < cum all n) : Hs q = (((bucket all n)[q]?).map fld).getD 0 := by
  obtain ⟨v, j, hv, hj, rfl⟩ := in_bucket all n q hq
  rw [bucket_get all n v j hv hj]
  have hj' : j < (pick all v).length := hj
  rw [List.getElem?_eq_getElem hj']
  exact h v j _ (List.getElem?_eq_getElem hj')

/-! ### The arcs out of a grid -/

def rowTo (T H I : Nat → Int) (c : Nat) : List Arc := (List.range c).map fun j => (T j, H j, I j)
def flatTo (L : Nat → Nat) (T H I : Nat → Nat → Int) : Nat → List Arc
  | 0 => []
  | r + 1 => flatTo L T H I r ++ rowTo (T r) (H r) (I r) (L r)

theorem rowTo_succ (T H I : Nat → Int) (c : Nat) : rowTo T H I (c + 1) = rowTo T H I c ++ [(T c, H c, I c)] := by simp [rowTo, List.range_succ]
theorem length_rowTo (T H I : Nat → Int) (c : Nat) : (rowTo T H I c).length = c := by simp [rowTo]
theorem rowTo_split (T H I : Nat → Int) {c n : Nat} (h : c < n) : ∃ rest, rowTo T H I n = rowTo T H I c ++ (T c, H c, I c) :: rest := by
  induction n with
  | zero => omega
  | succ n ih =>
    rw [rowTo_succ]
    by_cases e : c = n
    · subst e; exact ⟨[], rfl⟩
    · obtain ⟨rest, hr⟩ := ih (by omega)
      exact ⟨rest ++ [(T n, H n, I n)], by rw [hr]; simp⟩
theorem flatTo_split (L : Nat → Nat) (T H I : Nat → Nat → Int) {r c G : Nat} (hr : r < G) (hc : c < L r) :
    ∃ rest, flatTo L T H I G = (flatTo L T H I r ++ rowTo (T r) (H r) (I r) c) ++ (T r c, H r c, I r c) :: rest := by
  induction G with
  | zero => omega
  | succ G ih =>
    simp only [flatTo]
    by_cases e : r = G
    · subst e
      obtain ⟨rest, h⟩ := rowTo_split (T r) (H r) (I r) hc
      exact ⟨rest, by rw [h]; simp⟩
    · obtain ⟨rest, h⟩ := ih (by omega)
      exact ⟨rest ++ rowTo (T G) (H G) (I G) (L G), by rw [h]; simp⟩

theorem flatTo_inR (L : Nat → Nat) (T H I : Nat → Nat → Int) {G n : Nat} (h : ∀ r c, r < G → c < L r → 0 ≤ T r c ∧ T r c < (n : Int)) : InR (flatTo L T H I G) n := by
  induction G with
  | zero => intro a ha; simp [flatTo] at ha
  | succ G ih =>
    intro a ha
    simp only [flatTo, List.mem_append] at ha
    rcases ha with ha | ha
    · exact ih (fun r c hr hc => h r c (by omega) hc) a ha
    · simp only [rowTo, List.mem_map, List.mem_range] at ha
      obtain ⟨c, hc, rfl⟩ := ha
      exact h G c (by omega) hc

/-! ### The counting loops -/

/-- Behind the arcs l: start[v] is the number of arcs with tail v - 1. -/
def S1 (l : List Arc) (v : Nat) : Int := match v with | 0 => 0 | u + 1 => (cnt l u : Int)
theorem S1_step (l : List Arc) (a : Arc) (t v : Nat) (ht : a.1 = (t : Int)) : (if v = t + 1 then S1 l (t + 1) + 1 else S1 l v) = S1 (l ++ [a]) v := by
  cases v with
  | zero => simp [S1]
  | succ u =>
    simp only [S1, cnt_snoc]
    by_cases e : u = t
    · subst e; simp [ht]
    · rw [if_neg (by omega), if_neg (by rw [ht]; omega)]; simp
/-- Behind v rounds of the summing loop. -/
def S2 (l : List Arc) (k v : Nat) : Int := if v ≤ k then (cum l v : Int) else S1 l v
theorem S2_start (l : List Arc) (v : Nat) : S1 l v = S2 l 0 v := by
  simp only [S2]
  split
  · have : v = 0 := by omega
    subst this; simp [S1, cum]
  · rfl
theorem S2_step (l : List Arc) (k v : Nat) : (if v = k + 1 then S2 l k (k + 1) + S2 l k k else S2 l k v) = S2 l (k + 1) v := by
  by_cases e : v = k + 1
  · subst e
    rw [if_pos rfl]
    simp only [S2]
    rw [if_neg (by omega), if_pos (Nat.le_refl _), if_pos (Nat.le_refl _)]
    simp only [S1, cum]; omega
  · rw [if_neg e]
    simp only [S2]
    by_cases h : v ≤ k
    · rw [if_pos h, if_pos (by omega)]
    · rw [if_neg h, if_neg (by omega)]
/-- In the placing loop, behind the arcs l: where the next arc from v goes. -/
def S3 (all l : List Arc) (n v : Nat) : Int := if v < n then (cum all v : Int) + (cnt l v : Int) else (cum all v : Int)
theorem S3_start (all : List Arc) (n v : Nat) (hv : v < n + 1) : S2 all n v = S3 all [] n v := by
  simp only [S2, S3, cnt, pick]
  rw [if_pos (by omega)]
  split <;> simp
theorem S3_step (all l : List Arc) (a : Arc) (n t v : Nat) (ht : a.1 = (t : Int)) (htn : t < n) : (if v = t then S3 all l n t + 1 else S3 all l n v) = S3 all (l ++ [a]) n v := by
  simp only [S3, cnt_snoc]
  by_cases e : v = t
  · subst e
    rw [if_pos rfl, if_pos htn, if_pos htn, if_pos ht]; omega
  · rw [if_neg e]
    by_cases h : v < n
    · rw [if_pos h, if_pos h, if_neg (by rw [ht]; omega)]; omega
    · rw [if_neg h, if_neg h]
/-- Behind 'copy(start[1:], start[:n]); start[0] = 0'. -/
theorem S3_end (all : List Arc) (n v : Nat) (hv : v < n) : S3 all all n v = (cum all (v + 1) : Int) := by
  simp only [S3, cum]
  rw [if_pos hv]; omega

end Go.Proofs.Qxb6601390a.Plain
