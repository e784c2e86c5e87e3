/-
  ZZNewDigraphB1 (38), the getters (40, 41, 42), zzEqual32_b1 (21), zzEqualInts_b1 (46).
-/
import Derived.Test.Qxb6601390aDig
namespace Go.Proofs.Qxb6601390a
open Go.RowKit Plain

/-- A slice value of n numbers X in memory. -/
structure IntsAt (k : IntKind) (w : World) (a : Option Addr) (n : Nat) (X : Nat → Int) (b o : Nat) : Prop where
  addr : 0 < n → a = some ⟨b, o, none⟩
  cell : ∀ i, i < n → w.cell? ⟨b, o + i, none⟩ = some (.int k (X i))

theorem IntsAt.later {k : IntKind} {w w' : World} {a : Option Addr} {n : Nat} {X : Nat → Int} {b o B : Nat} (h : IntsAt k w a n X b o) (s : w.Since B w') (hB : w.heap.size ≤ B) : IntsAt k w' a n X b o :=
  ⟨h.addr, fun i hi => by rw [s.cell (Nat.lt_of_lt_of_le (World.block_lt_of_cell? _ _ (h.cell i hi)) hB)]; exact h.cell i hi⟩
theorem IntsAt.ofRow {k : IntKind} {w : World} {b : Nat} {t : TypeId} {n : Nat} {X : Nat → Int} (h : w.rowIs b t n (fun i => .int k (X i))) : IntsAt k w (some ⟨b, 0, none⟩) n X b 0 :=
  ⟨fun _ => rfl, fun i hi => by rw [Nat.zero_add]; exact h.cell hi⟩

theorem since_drewN {B : Nat} {w w' : World} (h : w.Since B w') (n : Nat) : w.Since B (w'.drewN n) := ⟨h.os, h.tape, h.output, h.size, h.block⟩

set_option maxHeartbeats 400000 in
theorem equal21 {w : World} {a b : Option Addr} {n ca cb ab ao bb bo : Nat} {X : Nat → Int} (hn : n ≤ 9223372036854775807) (hA : IntsAt .i32 w a n X ab ao) (hB : IntsAt .i32 w b n X bb bo) :
    Calls Try.prog 21 #[.slice a n ca, .slice b n cb] w fun e w' => e = .returned (.bool true) ∧ w.Since w.heap.size w' := by
  have e0 : (((n : Int)) != (n : Int)) = false := by simp
  go_enter Try.func21, Try.ntmps21
  go_wp2
  go_loopg [5] n (fun k i wr => ∃ (r : Nat), r ≤ n ∧ k = n - r ∧ i = .int .i64 r ∧ w.Since w.heap.size wr)
  case atStart => exact ⟨0, Nat.zero_le _, rfl, rfl, World.Since.refl _ _⟩
  case round =>
    obtain ⟨r, hr, rfl, rfl, hS⟩ := hrel
    by_cases hrn : r < n
    · have hrz : (r : Int) < (n : Int) := by omega
      obtain rfl := hA.addr (by omega)
      obtain rfl := hB.addr (by omega)
      have q1 := (hA.later hS (Nat.le_refl _)).cell r hrn
      have q2 := (hB.later hS (Nat.le_refl _)).cell r hrn
      have e1 : (X r != X r) = false := by simp
      go_wp2
      go_quiet (fail)
      go_wp2
      go_roundg (n - (r + 1))
      case measure => go_light; omega
      case rel => go_light; exact ⟨r + 1, by omega, rfl, by simp, since_drewN hS _⟩
    · have hrz : ¬ (r : Int) < (n : Int) := by omega
      go_wp2
      go_ret
      exact ⟨rfl, hS⟩
set_option maxHeartbeats 400000 in
theorem equal46 {w : World} {a b : Option Addr} {n ca cb ab ao bb bo : Nat} {X : Nat → Int} (hn : n ≤ 9223372036854775807) (hA : IntsAt .i64 w a n X ab ao) (hB : IntsAt .i64 w b n X bb bo) :
    Calls Try.prog 46 #[.slice a n ca, .slice b n cb] w fun e w' => e = .returned (.bool true) ∧ w.Since w.heap.size w' := by
  have e0 : (((n : Int)) != (n : Int)) = false := by simp
  go_enter Try.func46, Try.ntmps46
  go_wp2
  go_loopg [5] n (fun k i wr => ∃ (r : Nat), r ≤ n ∧ k = n - r ∧ i = .int .i64 r ∧ w.Since w.heap.size wr)
  case atStart => exact ⟨0, Nat.zero_le _, rfl, rfl, World.Since.refl _ _⟩
  case round =>
    obtain ⟨r, hr, rfl, rfl, hS⟩ := hrel
    by_cases hrn : r < n
    · have hrz : (r : Int) < (n : Int) := by omega
      obtain rfl := hA.addr (by omega)
      obtain rfl := hB.addr (by omega)
      have q1 := (hA.later hS (Nat.le_refl _)).cell r hrn
      have q2 := (hB.later hS (Nat.le_refl _)).cell r hrn
      have e1 : (X r != X r) = false := by simp
      go_wp2
      go_quiet (fail)
      go_wp2
      go_roundg (n - (r + 1))
      case measure => go_light; omega
      case rel => go_light; exact ⟨r + 1, by omega, rfl, by simp, since_drewN hS _⟩
    · have hrz : ¬ (r : Int) < (n : Int) := by omega
      go_wp2
      go_ret
      exact ⟨rfl, hS⟩

theorem dig38_end {w w2 : World} {o : Obj} {n : Nat} {all : List Arc} {sb hb ib : Nat} (hs : (w.alloc o).Since (w.alloc o).heap.size w2) (hd : DigAt w2 n all sb hb ib)
    (h1 : (w.alloc o).heap.size ≤ sb) (h2 : (w.alloc o).heap.size ≤ hb) (h3 : (w.alloc o).heap.size ≤ ib) {v0 v1 v2 : Value} {e : Ending} (he : e = .returned (digV n all sb hb ib)) :
    DigMade w (((w2.setCell ⟨w.heap.size, 0, none⟩ v0).setCell ⟨w.heap.size, 1, none⟩ v1).setCell ⟨w.heap.size, 2, none⟩ v2) e n all := by
  have z : (w.alloc o).heap.size = w.heap.size + 1 := by simp
  rw [z] at hs h1 h2 h3
  have s1 : w.Since w.heap.size w2 := ((World.Since.refl _ _).alloc (Nat.le_refl _) o).trans ⟨hs.os, hs.tape, hs.output, hs.size, fun k hk => hs.block k (by omega)⟩
  refine ⟨sb, hb, ib, he, ((s1.setCell (Nat.le_refl _) _).setCell (Nat.le_refl _) _).setCell (Nat.le_refl _) _, ⟨?_, ?_, ?_⟩, by omega, by omega, by omega⟩
  · exact ((hd.start.setOther (by show sb ≠ w.heap.size; omega) _).setOther (by show sb ≠ w.heap.size; omega) _).setOther (by show sb ≠ w.heap.size; omega) _
  · exact ((hd.heads.setOther (by show hb ≠ w.heap.size; omega) _).setOther (by show hb ≠ w.heap.size; omega) _).setOther (by show hb ≠ w.heap.size; omega) _
  · exact ((hd.items.setOther (by show ib ≠ w.heap.size; omega) _).setOther (by show ib ≠ w.heap.size; omega) _).setOther (by show ib ≠ w.heap.size; omega) _

set_option maxHeartbeats 400000 in
theorem dig38 {w : World} {pb n : Nat} {ga : Option Addr} {G : Nat} {A : Nat → Option Addr} {L C RB RO : Nat → Nat} {T H I : Nat → Nat → Int} {gb go : Nat}
    (hp : w.cell? ⟨pb, 0, none⟩ = some (.slice ga G G)) (g : GridAt w ga G A L C RB RO T H I gb go) (fit : SizeOK G L) (dom : DomOK n G L T) :
    Calls Try.prog 38 #[.int .i64 n, .pointer (some ⟨pb, 0, none⟩)] w fun e w' => DigMade w w' e n (flatTo L T H I G) := by
  have s1 : w.Since w.heap.size (w.alloc (.cells #[.slice none 0 0, .slice none 0 0, .slice none 0 0] 72)) := (World.Since.refl _ _).alloc (Nat.le_refl _) _
  have g1 := g.later s1 (Nat.le_refl _)
  have hp1 : (w.alloc (.cells #[.slice none 0 0, .slice none 0 0, .slice none 0 0] 72)).cell? ⟨pb, 0, none⟩ = some (.slice ga G G) := by
    rw [s1.cell (World.block_lt_of_cell? _ _ hp)]; exact hp
  go_enter Try.func38, Try.ntmps38
  go_wp2_with fail
  refine (dig58 hp1 g1 fit dom).mono ?_
  rintro e w2 ⟨sb, hb, ib, rfl, hs, hd, h1, h2, h3⟩
  have HEND := fun e v0 v1 v2 => dig38_end hs hd h1 h2 h3 (e := e) (v0 := v0) (v1 := v1) (v2 := v2)
  have z : (w.alloc (.cells #[.slice none 0 0, .slice none 0 0, .slice none 0 0] 72)).heap.size = w.heap.size + 1 := by simp
  rw [z] at hs
  have c0 : w2.cell? ⟨w.heap.size, 0, none⟩ = some (.slice none 0 0) := by rw [hs.cell (by show w.heap.size < _; omega)]; simp
  have c1 : w2.cell? ⟨w.heap.size, 1, none⟩ = some (.slice none 0 0) := by rw [hs.cell (by show w.heap.size < _; omega)]; simp
  have c2 : w2.cell? ⟨w.heap.size, 2, none⟩ = some (.slice none 0 0) := by rw [hs.cell (by show w.heap.size < _; omega)]; simp
  have f0 : w2.frozen? ⟨w.heap.size, 0, none⟩ = false := by rw [hs.frozen (by show w.heap.size < _; omega)]; simp
  have f1 : w2.frozen? ⟨w.heap.size, 1, none⟩ = false := by rw [hs.frozen (by show w.heap.size < _; omega)]; simp
  have f2 : w2.frozen? ⟨w.heap.size, 2, none⟩ = false := by rw [hs.frozen (by show w.heap.size < _; omega)]; simp
  clear hp1 g1 hd hs
  unfold digV
  go_wp2
  refine bodyPost_ret (v := digV n (flatTo L T H I G) sb hb ib) ?hres rfl ?hpost
  case hres => go_light; simp [digV, results, Try.results38, go_sem, c0, c1, c2]
  case hpost => go_light; exact HEND _ _ _ _ rfl

set_option maxHeartbeats 400000 in
theorem start40 (w : World) (a b c : Value) (o : Option Addr) (n k : Nat) (ha : a = .slice o n k) : Calls Try.prog 40 #[.agg #[a, b, c]] w fun e w' => e = .returned a ∧ w.Since w.heap.size w' := by
  subst ha
  go_enter Try.func40, Try.ntmps40
  go_wp2
  go_ret
  exact ⟨rfl, (World.Since.refl _ _).alloc (Nat.le_refl _) _⟩
set_option maxHeartbeats 400000 in
theorem heads41 (w : World) (a b c : Value) (o : Option Addr) (n k : Nat) (hb : b = .slice o n k) : Calls Try.prog 41 #[.agg #[a, b, c]] w fun e w' => e = .returned b ∧ w.Since w.heap.size w' := by
  subst hb
  go_enter Try.func41, Try.ntmps41
  go_wp2
  go_ret
  exact ⟨rfl, (World.Since.refl _ _).alloc (Nat.le_refl _) _⟩
set_option maxHeartbeats 400000 in
theorem items42 (w : World) (a b c : Value) (o : Option Addr) (n k : Nat) (hc : c = .slice o n k) : Calls Try.prog 42 #[.agg #[a, b, c]] w fun e w' => e = .returned c ∧ w.Since w.heap.size w' := by
  subst hc
  go_enter Try.func42, Try.ntmps42
  go_wp2
  go_ret
  exact ⟨rfl, (World.Since.refl _ _).alloc (Nat.le_refl _) _⟩
end Go.Proofs.Qxb6601390a
