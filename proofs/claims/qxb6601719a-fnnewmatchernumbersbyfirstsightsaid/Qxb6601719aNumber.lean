/-
  newMatcher's closure (37): the lines of one text, numbered by first sight.
-/
import Derived.Test.Qxb6601719aClone
namespace Go.Proofs.Qxb6601719a
open Go.RowKit Go.Maps Go.WideMaps
set_option linter.unusedVariables false

theorem zero3 (w : World) : (zeroValue 3).run Try.prog w = .ok (.int .i64 0) w := by rfl
theorem law9 : Maps.Keyed Try.prog 9 := Maps.string_keyed Try.underlying9

abbrev Owns (w : World) (B n : Nat) (D : DataW Unit) : Prop := w.ownsMap Try.prog 9 (plainElem Try.prog 3) B n D

/-- WHAT number LEAVES. -/
def Numbered (w w' : World) (e : Ending) (B G n p : Nat) (K : Nat → List UInt8) : Prop :=
  ∃ h, e = .returned (.slice (some ⟨h, 0, none⟩) G G) ∧ w.heap.size ≤ h ∧ w.grownBy w' (some B) ∧ w'.rowIs h 3 G (fun j => .int .i64 (num K (p + j) : Int)) ∧ ∃ n' D', n' ≤ n + G ∧ Owns w' B n' D' ∧ Seen K (p + G) D'

def nCell (K : Nat → List UInt8) (p k j : Nat) : Value := if j < k then .int .i64 (num K (p + j) : Int) else .int .i64 0
theorem nCell_step (K : Nat → List UInt8) (p k j : Nat) : (if j = k then .int .i64 (num K (p + k) : Int) else nCell K p k j) = nCell K p (k + 1) j := by
  simp only [nCell]
  by_cases e : j = k
  · subst e; simp
  · rw [if_neg e]
    by_cases h : j < k
    · rw [if_pos h, if_pos (by omega)]
    · rw [if_neg h, if_neg (by omega)]
theorem nCell_at (K : Nat → List UInt8) (p k : Nat) : nCell K p k k = .int .i64 0 := by simp [nCell]

/-- The closure's memory, k lines done. -/
structure NumIn (w wr : World) (B G n p : Nat) (K : Nat → List UInt8) (k : Nat) (D : DataW Unit) : Prop where
  grown : w.grownBy wr (some B)
  row : wr.rowIs w.heap.size 3 G (nCell K p k)
  own : Owns wr B (n + k) D
  seen : Seen K (p + k) D

theorem num_start {w : World} {B n p : Nat} {D : DataW Unit} {K : Nat → List UInt8} (G : Nat) (own : Owns w B n D) (seen : Seen K p D) : NumIn w (w.alloc (.cells (madeCells #[.int .i64 0] G) 3)) B G n p K 0 D :=
  ⟨World.grownBy_alloc w _ _, (World.rowIs_made w _ G 3).congr (fun j _ => by simp [nCell]), own.alloc _, seen⟩

theorem num_store {w wr w1 : World} {B G n p k : Nat} {D D1 : DataW Unit} {K : Nat → List UInt8} (h : NumIn w wr B G n p K k D) (hB : B < w.heap.size) (g1 : wr.grownBy w1 (some B)) (own : Owns w1 B (n + (k + 1)) D1) (seen : Seen K (p + k + 1) D1) {v : Int} (hv : v = (num K (p + k) : Int)) :
    NumIn w (w1.setCell ⟨w.heap.size, k, none⟩ (.int .i64 v)) B G n p K (k + 1) D1 := by
  subst hv
  have hN : w.heap.size < wr.heap.size := h.row.lt
  have gg := h.grown.trans g1
  refine ⟨⟨gg.os, gg.tape, gg.output, ?_, fun i hi hne => ?_⟩, ((h.row.of_block (g1.block _ hN (fun e => by have := Option.some.inj e; omega))).set k _).congr (fun j _ => nCell_step K p k j), own.setCell (by show B ≠ w.heap.size; omega) _, seen⟩
  · have := gg.size; simpa using this
  · rw [Below.heap_setCell _ _ _ _ (by show i ≠ w.heap.size; omega)]; exact gg.block i hi hne

set_option maxRecDepth 100000 in
set_option maxHeartbeats 800000 in
theorem number37 {w : World} {ga : Option Addr} {G Gc : Nat} {A : Nat → Option Addr} {L C RB RO : Nat → Nat} {X : Nat → Nat → UInt8} {gb go : Nat}
    (g : LinesAt w ga G A L C RB RO X gb go) (hG : G ≤ 4096) (hfit : FitL G L) {cp B n p : Nat} {D0 : DataW Unit} {K : Nat → List UInt8}
    (hcp : w.cell? ⟨cp, 0, none⟩ = some (.map (some B))) (hown : Owns w B n D0) (hn : n ≤ 8192) (hseen : Seen K p D0) (hp : p ≤ 8192) (hK : ∀ r, r < G → K (p + r) = ln L X r) :
    Calls Try.prog 37 #[.slice ga G Gc, .pointer (some ⟨cp, 0, none⟩)] w fun e w' => Numbered w w' e B G n p K := by
  have hmk := run_make_row' (P := Try.prog) 32 3 (.int .i64 0) 8 Try.underlying32 Try.info3 rfl .i64 .i64 G (by omega) (by omega)
  have hB := hown.lt
  obtain ⟨es, clock, hmap, _⟩ := id hown
  have HK : Aside (∀ r, r < G → K (p + r) = ln L X r) := hK
  have hcB : cp ≠ B := cell_not_map hcp hmap
  go_enter Try.func37, Try.ntmps37
  go_wp2
  clear hmk hK
  go_loopg [14] G (fun g i wr => ∃ (k : Nat) (D : DataW Unit), k ≤ G ∧ g = G - k ∧ i = .int .i64 k ∧ NumIn w wr B G n p K k D)
  case atStart => exact ⟨0, D0, Nat.zero_le _, rfl, rfl, num_start G hown hseen⟩
  case round =>
    obtain ⟨k, D, hk, rfl, rfl, hI⟩ := hrel
    by_cases hkn : k < G
    · have hkz : (k : Int) < (G : Int) := by omega
      obtain rfl := g.ga (by omega)
      have g1 := g.but hmap hI.grown
      have c0 := g1.row k hkn
      have hcv := g1.convert hkn
      have hL := hfit k hkn
      have c1 : wr.cell? ⟨cp, 0, none⟩ = some (.map (some B)) := hI.grown.cell hcp (fun e => hcB (Option.some.inj e))
      have hkey : keyOf Try.prog 9 (.string ⟨(ln L X k).toArray⟩) = some (.string (ln L X k)) := by
        simpa using keyOf_string_mk (P := Try.prog) Try.underlying9 (s := ⟨(ln L X k).toArray⟩) (by simp [ByteArray.size, ln_length]; have : maxLen = 9223372036854775807 := rfl; omega)
      have c2 := hI.row.cell hkn
      rw [nCell_at] at c2
      have f2 := hI.row.frozen k
      have l2 := hI.row.lt
      have hmy := hI.own
      have hKk := HK.out k hkn
      by_cases hseen1 : firstIx K (p + k) < p + k
      · have hhas := hI.seen.has_iff.2 hseen1
        obtain ⟨S1, hat0⟩ := hI.seen.old hseen1
        rw [hKk] at hhas hat0
        have H := fun (v : Int) (hv : v = (num K (p + k) : Int)) => num_store hI hB (World.grownBy.refl wr _) (hmy.mono (by omega)) S1 hv
        clear g g1 hI S1 hKk hseen1
        go_wp2_with (at_lookup; refine wpList_lookup_own_ok_int _ rfl _ _ 52 rfl 9 3 .i64 law9 Try.underlying52 Try.underlying3 (zero3 _) B (n + k) D rfl hmy _ _ rfl hkey ?_; intro c hat hwc; have HV : Aside (c = (num K (p + k) : Int)) := (by rw [hat0] at hat; simp at hat; exact hat.symm); clear hat hat0)
        have H1 := H c HV.out
        go_roundg (G - (k + 1))
        case measure => go_light; omega
        case rel => go_light; exact ⟨k + 1, D, by omega, rfl, by simp, H1⟩
      · have hfirst : firstIx K (p + k) = p + k := by have := firstIx_le K (p + k); omega
        have hhas : Maps.has D (.string (K (p + k))) = false := by
          cases hb : Maps.has D (.string (K (p + k))) with
          | false => rfl
          | true => exact absurd (hI.seen.has_iff.1 hb) hseen1
        have S1 := hI.seen.fresh hfirst
        have hsz := hI.seen.size
        rw [hKk] at hhas S1
        have hcn := cnt_le K (p + k)
        have HS : Aside ((Maps.size D : Int) = (num K (p + k) : Int)) := by rw [hsz, num_new K _ hfirst]; rfl
        rw [← hsz] at S1
        have hszb : Maps.size D ≤ 16384 := by rw [hsz]; omega
        have hwf : (Lit.int .i64 (Maps.size D : Int)).wf = true := by
          have h1 : ((Maps.size D : Nat) : Int) ≤ 16384 := by omega
          exact WalkArith.wf_i64 (by omega)
        have hne : ∀ u : Unit, some w.heap.size ≠ some B := fun _ e => by have := Option.some.inj e; omega
        clear hsz hfirst hKk hseen1 hcn
        go_wp2_with (first
          | (at_lookup; refine wpList_lookup_own_ok_int _ rfl _ _ 52 rfl 9 3 .i64 law9 Try.underlying52 Try.underlying3 (zero3 _) B (n + k) D rfl hmy _ _ rfl hkey ?_; intro c hat hwc; clear hat hwc)
          | (at_len; refine wpList_len_own _ rfl _ 52 rfl 9 3 Try.underlying52 _ B (n + k) D rfl hmy ?_)
          | (at_mapUpdate; refine wpList_mapUpdate_own _ rfl _ _ _ 52 rfl 9 3 law9 Try.underlying52 _ B (n + k) _ rfl hmy (by have : maxLen = 9223372036854775807 := rfl; omega) _ _ _ rfl rfl hkey _ [] (plainElem_int Try.underlying3 hwf) ?_; intro w1 hown1 hgrow1; have c2' : w1.cell? ⟨w.heap.size, k, none⟩ = some (.int .i64 0) := hgrow1.cell c2 (hne ()); have f2' : w1.frozen? ⟨w.heap.size, k, none⟩ = false := (World.frozen?_of_block (hgrow1.block _ l2 (hne ()))).trans f2))
        have H1 := num_store hI hB hgrow1 hown1 S1 HS.out
        go_roundg (G - (k + 1))
        case measure => go_light; omega
        case rel => go_light; exact ⟨k + 1, _, by omega, rfl, by simp, H1⟩
    · have hkz : ¬ (k : Int) < (G : Int) := by omega
      obtain rfl : k = G := by omega
      clear g
      go_wp2
      go_ret
      exact ⟨w.heap.size, rfl, Nat.le_refl _, hI.grown, hI.row.congr (fun j hj => by rw [nCell, if_pos hj]), n + k, D, Nat.le_refl _, hI.own, hI.seen⟩

end Go.Proofs.Qxb6601719a
