/-
  zzStableByTail_b1 (44): the bottom-up merge sort.
-/
import Derived.Test.Qxb6601390aFlatten
import Derived.Test.Qxb6601390aMerge
import Derived.Deep.DeepCutAuto
namespace Go.Proofs.Qxb6601390a
open Go.RowKit Plain

structure SortAt (w wr : World) (n bx bz : Nat) (X Y : Nat → Nat) : Prop where
  since : w.Since w.heap.size wr
  rx : wr.rowIs bx 3 n (fun q => .int .i64 (X q : Int))
  ry : wr.rowIs bz 3 n (fun q => .int .i64 (Y q : Int))
  hx : w.heap.size ≤ bx
  hy : w.heap.size ≤ bz
  ne : bx ≠ bz
  ox : ∀ q, q < n → X q < n
  oy : ∀ q, q < n → Y q < n

theorem SortAt.drewN {w wr : World} {n bx bz : Nat} {X Y : Nat → Nat} (h : SortAt w wr n bx bz X Y) (k : Nat) : SortAt w (wr.drewN k) n bx bz X Y :=
  ⟨since_drewN h.since k, h.rx, h.ry, h.hx, h.hy, h.ne, h.ox, h.oy⟩
theorem SortAt.swap {w wr : World} {n bx bz : Nat} {X Y : Nat → Nat} (h : SortAt w wr n bx bz X Y) : SortAt w wr n bz bx Y X :=
  ⟨h.since, h.ry, h.rx, h.hy, h.hx, fun e => h.ne e.symm, h.oy, h.ox⟩
theorem SortAt.setY {w wr : World} {n bx bz : Nat} {X Y : Nat → Nat} (h : SortAt w wr n bx bz X Y) (k v : Nat) (hv : v < n) : SortAt w (wr.setCell ⟨bz, k, none⟩ (.int .i64 (v : Int))) n bx bz X (fun q => if q = k then v else Y q) :=
  ⟨h.since.setCell h.hy _, h.rx.setOther h.ne _, (h.ry.set k _).congr (fun q _ => by by_cases e : q = k <;> simp [e]), h.hx, h.hy, h.ne, h.ox, fun q hq => by by_cases e : q = k <;> simp [e, hv]; exact h.oy q hq⟩
theorem sort_start (w : World) (n : Nat) : SortAt w ((w.alloc (.cells (madeCells #[.int .i64 0] n) 3)).alloc (.cells (madeCells #[.int .i64 0] n) 3)) n w.heap.size (w.heap.size + 1) (fun q => if q < 0 then q else 0) (fun _ => 0) := by
  have s1 := (World.Since.refl w.heap.size w).alloc (Nat.le_refl _) (.cells (madeCells #[.int .i64 0] n) 3)
  have s2 := s1.alloc s1.size (.cells (madeCells #[.int .i64 0] n) 3)
  have r1 := World.rowIs_made w (.int .i64 0) n 3
  have r2 := World.rowIs_made (w.alloc (.cells (madeCells #[.int .i64 0] n) 3)) (.int .i64 0) n 3
  have z1 : (w.alloc (.cells (madeCells #[.int .i64 0] n) 3)).heap.size = w.heap.size + 1 := by simp
  rw [z1] at r2
  exact ⟨s2, (r1.alloc _).congr (fun q _ => by simp), r2.congr (fun q _ => by simp), Nat.le_refl _, by omega, by omega, fun q hq => by show (if q < 0 then q else 0) < n; simp; omega, fun q hq => by show 0 < n; omega⟩

def SortMade (w w' : World) (e : Ending) (n : Nat) (τ : Nat → Int) (N : Nat) : Prop :=
  ∃ b X, e = .returned (.slice (some ⟨b, 0, none⟩) n n) ∧ w.Since w.heap.size w' ∧ w'.rowIs b 3 n (fun q => .int .i64 (X q : Int)) ∧ (∀ q, q < n → X q < n) ∧ seg X 0 n = bk τ (List.range n) N

/-- One element is taken from the first part, from the second. -/
theorem take_i {τ : Nat → Int} {X Y : Nat → Nat} {lo mid hi i j k : Nat} {whole : List Nat} (hlo : lo ≤ k) (hi' : i < mid) (hj : j < hi → τ (X i) ≤ τ (X j)) (h : seg Y lo k ++ mg τ (seg X i mid) (seg X j hi) = whole) :
    seg (fun q => if q = k then X i else Y q) lo (k + 1) ++ mg τ (seg X (i + 1) mid) (seg X j hi) = whole := by
  rw [← h, seg_snoc _ hlo, seg_congr (X := fun q => if q = k then X i else Y q) (Y := Y) (fun q _ hq => by rw [if_neg (by omega)]), seg_cons X hi']
  simp only [if_true, List.append_assoc]
  congr 1
  by_cases hjh : j < hi
  · rw [seg_cons X hjh, mg_pos τ _ _ _ _ (hj hjh)]; rfl
  · rw [seg_nil X (a := j) (b := hi) (by omega), mg_nil_right, mg_nil_right]; rfl
theorem take_j {τ : Nat → Int} {X Y : Nat → Nat} {lo mid hi i j k : Nat} {whole : List Nat} (hlo : lo ≤ k) (hj' : j < hi) (hi' : i < mid → ¬ τ (X i) ≤ τ (X j)) (h : seg Y lo k ++ mg τ (seg X i mid) (seg X j hi) = whole) :
    seg (fun q => if q = k then X j else Y q) lo (k + 1) ++ mg τ (seg X i mid) (seg X (j + 1) hi) = whole := by
  rw [← h, seg_snoc _ hlo, seg_congr (X := fun q => if q = k then X j else Y q) (Y := Y) (fun q _ hq => by rw [if_neg (by omega)]), seg_cons X hj']
  simp only [if_true, List.append_assoc]
  congr 1
  by_cases him : i < mid
  · rw [seg_cons X him, mg_neg τ _ _ _ _ (hi' him)]; rfl
  · rw [seg_nil X (a := i) (b := mid) (by omega), mg_nil_left, mg_nil_left]; rfl

/-- THE MERGE LOOP's RELATION. -/
structure Mid (w wr : World) (n bx bz lo mid hi i j k : Nat) (X Y0 Y : Nat → Nat) (τ : Nat → Int) : Prop where
  at_ : SortAt w wr n bx bz X Y
  keep : ∀ q, q < lo → Y q = Y0 q
  i0 : lo ≤ i
  i1 : i ≤ mid
  j0 : mid ≤ j
  j1 : j ≤ hi
  k0 : k + mid = i + j
  whole : seg Y lo k ++ mg τ (seg X i mid) (seg X j hi) = mg τ (seg X lo mid) (seg X mid hi)

theorem Mid.takeI {w wr : World} {n bx bz lo mid hi i j k : Nat} {X Y0 Y : Nat → Nat} {τ : Nat → Int} (h : Mid w wr n bx bz lo mid hi i j k X Y0 Y τ) (nq : Nat) (hi1 : i < mid) (hin : i < n) (hlk : lo ≤ k) (hj : j < hi → τ (X i) ≤ τ (X j)) :
    Mid w ((wr.drewN nq).setCell ⟨bz, k, none⟩ (.int .i64 ((X i : Nat) : Int))) n bx bz lo mid hi (i + 1) j (k + 1) X Y0 (fun q => if q = k then X i else Y q) τ :=
  ⟨(h.at_.drewN nq).setY k (X i) (h.at_.ox i hin), fun q hq => by show (if q = k then X i else Y q) = Y0 q; rw [if_neg (by omega)]; exact h.keep q hq, by have := h.i0; omega, by omega, h.j0, h.j1, by have := h.k0; omega, take_i hlk hi1 hj h.whole⟩
theorem Mid.takeJ {w wr : World} {n bx bz lo mid hi i j k : Nat} {X Y0 Y : Nat → Nat} {τ : Nat → Int} (h : Mid w wr n bx bz lo mid hi i j k X Y0 Y τ) (nq : Nat) (hj1 : j < hi) (hjn : j < n) (hlk : lo ≤ k) (hi' : i < mid → ¬ τ (X i) ≤ τ (X j)) :
    Mid w ((wr.drewN nq).setCell ⟨bz, k, none⟩ (.int .i64 ((X j : Nat) : Int))) n bx bz lo mid hi i (j + 1) (k + 1) X Y0 (fun q => if q = k then X j else Y q) τ :=
  ⟨(h.at_.drewN nq).setY k (X j) (h.at_.ox j hjn), fun q hq => by show (if q = k then X j else Y q) = Y0 q; rw [if_neg (by omega)]; exact h.keep q hq, h.i0, h.i1, by have := h.j0; omega, by omega, by have := h.k0; omega, take_j hlk hj1 hi' h.whole⟩

set_option maxHeartbeats 3200000 in
set_option maxRecDepth 100000 in
theorem stable44 {w : World} {a : Option Addr} {n c tb ta : Nat} {τ : Nat → Int} (hA : IntsAt .i32 w a n τ tb ta) (hn : n ≤ 1048576) (N : Nat) (hτ : ∀ p, p < n → 0 ≤ τ p ∧ τ p < (N : Int)) :
    Calls Try.prog 44 #[.slice a n c] w fun e w' => SortMade w w' e n τ N := by
  have hmk := run_make_row' (P := Try.prog) 31 3 (.int .i64 0) 8 Try.underlying31 Try.info3 rfl .i64 .i64 n (by omega) (by omega)
  have HT : Aside (∀ p, p < n → 0 ≤ τ p ∧ τ p < (N : Int)) := hτ
  clear hτ
  go_enter Try.func44, Try.ntmps44
  go_wp2
  clear hmk
  go_loopg [6] n (fun k i wr => ∃ r : Nat, r ≤ n ∧ k = n - r ∧ i = .int .i64 r ∧ SortAt w wr n w.heap.size (w.heap.size + 1) (fun q => if q < r then q else 0) (fun _ => 0))
  case atStart => exact ⟨0, Nat.zero_le _, rfl, rfl, sort_start w n⟩
  case round =>
    obtain ⟨r, hr, rfl, rfl, hS⟩ := hrel
    by_cases hrn : r < n
    · have hrz : (r : Int) < (n : Int) := by omega
      have q1 := hS.rx.cell hrn
      have q2 := hS.rx.frozen r
      go_wp2
      go_roundg (n - (r + 1))
      case measure => go_light; omega
      case rel =>
        go_light
        refine ⟨r + 1, by omega, rfl, by simp, ⟨hS.since.setCell (Nat.le_refl _) _, (hS.rx.set r _).congr (fun q _ => ?_), hS.ry.setOther (by show w.heap.size + 1 ≠ w.heap.size; omega) _, hS.hx, hS.hy, hS.ne, fun q hq => ?_, hS.oy⟩⟩
        · by_cases e : q = r
          · subst e; simp
          · rw [if_neg e]
            by_cases h : q < r
            · rw [if_pos h, if_pos (by omega)]
            · rw [if_neg h, if_neg (by omega)]
        · show (if q < r + 1 then q else 0) < n
          split <;> omega
    · have hrz : ¬ (r : Int) < (n : Int) := by omega
      obtain rfl : n = r := by omega
      have hS1 : SortAt w wr n w.heap.size (w.heap.size + 1) (fun q => q) (fun _ => 0) := ⟨hS.since, hS.rx.congr (fun q hq => by rw [if_pos hq]), hS.ry, hS.hx, hS.hy, hS.ne, fun q hq => hq, hS.oy⟩
      clear hS
      go_wp2
      go_loopg [4, 5, 7] (n - 1) (fun k ix bf wd wr => ∃ (bx bz wdt : Nat) (X Y : Nat → Nat), 1 ≤ wdt ∧ wdt ≤ 2 * n + 1 ∧ k = n - wdt ∧ ix = .slice (some ⟨bx, 0, none⟩) n n ∧ bf = .slice (some ⟨bz, 0, none⟩) n n ∧ wd = .int .i64 (wdt : Int) ∧ SortAt w wr n bx bz X Y ∧ Sorted τ N n wdt X n)
      case atStart => exact ⟨w.heap.size, w.heap.size + 1, 1, fun q => q, fun _ => 0, by omega, by omega, rfl, rfl, rfl, rfl, hS1, sorted_one τ N n HT.out⟩
      case round =>
        obtain ⟨bx, bz, wdt, X, Y, hw1, hw2, rfl, rfl, rfl, rfl, hS, hso⟩ := hrel
        clear hS1
        have HSO : Aside (Sorted τ N n wdt X n) := hso
        clear hso
        by_cases hwn : wdt < n
        · have hwz : (wdt : Int) < (n : Int) := by omega
          obtain rfl := hA.addr (by omega)
          go_wp2
          go_loopg [8] n (fun k lo wi => ∃ (s l : Nat) (Y : Nat → Nat), l = s * (2 * wdt) ∧ l ≤ n + 2 * wdt ∧ k = n - l ∧ lo = .int .i64 (l : Int) ∧ SortAt w wi n bx bz X Y ∧ Sorted τ N n (2 * wdt) Y l)
          case atStart => exact ⟨0, 0, Y, by omega, by omega, rfl, rfl, hS, fun s hs => absurd hs (Nat.not_lt_zero _)⟩
          case round =>
            clear hS
            obtain ⟨s, l, Y, hl, hl2, rfl, rfl, hS, hsy⟩ := hrel
            have HSY : Aside (l = s * (2 * wdt) ∧ Sorted τ N n (2 * wdt) Y l) := ⟨hl, hsy⟩
            clear hl hsy
            by_cases hln : l < n
            · have hlz : (l : Int) < (n : Int) := by omega
              obtain ⟨mid, Hm⟩ : ∃ mid, Aside (mid = min (l + wdt) n) := ⟨_, rfl⟩
              obtain ⟨hi, Hh⟩ : ∃ hi, Aside (hi = min (l + 2 * wdt) n) := ⟨_, rfl⟩
              go_upto_if 46 with fail
              go_cut [9] (fun s9 wx => s9 = .int .i64 (mid : Int) ∧ wr = wx)
              case first =>
                by_cases hc : l + wdt ≤ n
                · have hcz : ¬ (n : Int) < (l : Int) + (wdt : Int) := by omega
                  go_wp2
                  go_meet
                  go_light
                  have := Hm.out
                  exact ⟨congrArg (Value.int .i64) (by omega), rfl⟩
                · have hcz : (n : Int) < (l : Int) + (wdt : Int) := by omega
                  go_wp2
                  go_meet
                  go_light
                  have := Hm.out
                  exact ⟨congrArg (Value.int .i64) (by omega), rfl⟩
              case rest =>
                obtain ⟨rfl, rfl⟩ := hcut
                go_upto_if 54 with fail
                go_cut [10] (fun s10 wx => s10 = .int .i64 (hi : Int) ∧ wr = wx)
                case first =>
                  by_cases hc : l + 2 * wdt ≤ n
                  · have hcz : ¬ (n : Int) < (l : Int) + 2 * (wdt : Int) := by omega
                    go_wp2
                    go_meet
                    go_light
                    have := Hh.out
                    exact ⟨congrArg (Value.int .i64) (by omega), rfl⟩
                  · have hcz : (n : Int) < (l : Int) + 2 * (wdt : Int) := by omega
                    go_wp2
                    go_meet
                    go_light
                    have := Hh.out
                    exact ⟨congrArg (Value.int .i64) (by omega), rfl⟩
                case rest =>
                  obtain ⟨rfl, rfl⟩ := hcut
                  obtain ⟨hm1, hm2, hm3⟩ : l ≤ mid ∧ mid ≤ hi ∧ hi ≤ n := by have := Hm.out; have := Hh.out; omega
                  go_wp2
                  go_loopg [11, 12, 13] ((mid - l) + (hi - mid)) (fun g s11 s12 s13 wi => ∃ (i j k : Nat) (Y' : Nat → Nat), g = (mid - i) + (hi - j) ∧ s11 = .int .i64 (i : Int) ∧ s12 = .int .i64 (j : Int) ∧ s13 = .int .i64 (k : Int) ∧ Mid w wi n bx bz l mid hi i j k X Y Y' τ)
                  case atStart => exact ⟨l, mid, l, Y, rfl, rfl, rfl, rfl, ⟨hS, fun _ _ => rfl, Nat.le_refl _, hm1, Nat.le_refl _, hm2, by omega, by rw [seg_nil Y (Nat.le_refl l)]; rfl⟩⟩
                  case round =>
                    clear hS
                    obtain ⟨i, j, k, Y', rfl, rfl, rfl, rfl, hM⟩ := hrel
                    obtain ⟨i0, i1, j0, j1, k0⟩ : l ≤ i ∧ i ≤ mid ∧ mid ≤ j ∧ j ≤ hi ∧ k + mid = i + j := ⟨hM.i0, hM.i1, hM.j0, hM.j1, hM.k0⟩
                    have hN := hM.at_.since
                    by_cases hij : i < mid ∨ j < hi
                    · have hkn : k < n := by omega
                      have hlk : l ≤ k := by omega
                      have w1 := hM.at_.ry.cell hkn
                      have w2 := hM.at_.ry.frozen k
                      have HK : Aside (k + mid = i + j) := k0
                      clear k0
                      by_cases him : i < mid
                      · have hiz : (i : Int) < (mid : Int) := by omega
                        have hin : i < n := by omega
                        have hinz : (i : Int) < (n : Int) := by omega
                        have hknz : (k : Int) < (n : Int) := by omega
                        have x1 := hM.at_.rx.cell hin
                        have o1 := hM.at_.ox i hin
                        have o1z : ((X i : Nat) : Int) < (n : Int) := by omega
                        have y1 := (hA.later hN (Nat.le_refl _)).cell (X i) o1
                        by_cases hjh : j < hi
                        · have hjz : (j : Int) < (hi : Int) := by omega
                          have hjd : decide ((hi : Int) ≤ (j : Int)) = false := by simp; omega
                          have hjn : j < n := by omega
                          have hjnz : (j : Int) < (n : Int) := by omega
                          have x2 := hM.at_.rx.cell hjn
                          have o2 := hM.at_.ox j hjn
                          have o2z : ((X j : Nat) : Int) < (n : Int) := by omega
                          have y2 := (hA.later hN (Nat.le_refl _)).cell (X j) o2
                          by_cases hle : τ (X i) ≤ τ (X j)
                          · clear HT HSO HSY Hm Hh
                            go_wp2
                            go_quiet (fail)
                            go_wp2
                            go_roundg ((mid - (i + 1)) + (hi - j))
                            case measure => go_light; omega
                            case rel => go_light; exact ⟨i + 1, j, k + 1, _, rfl, by simp, rfl, by simp, hM.takeI _ him hin hlk (fun _ => hle)⟩
                          · clear HT HSO HSY Hm Hh
                            go_wp2
                            go_quiet (fail)
                            go_wp2
                            go_roundg ((mid - i) + (hi - (j + 1)))
                            case measure => go_light; omega
                            case rel => go_light; exact ⟨i, j + 1, k + 1, _, rfl, rfl, by simp, by simp, hM.takeJ _ hjh hjn hlk (fun _ => by omega)⟩
                        · have hjz : ¬ (j : Int) < (hi : Int) := by omega
                          have hjd : decide ((hi : Int) ≤ (j : Int)) = true := by simp; omega
                          clear HT HSO HSY Hm Hh
                          go_wp2
                          go_quiet (fail)
                          go_wp2
                          go_roundg ((mid - (i + 1)) + (hi - j))
                          case measure => go_light; omega
                          case rel => go_light; exact ⟨i + 1, j, k + 1, _, rfl, by simp, rfl, by simp, hM.takeI _ him hin hlk (fun h => absurd h hjh)⟩
                      · have hjh : j < hi := by omega
                        have hiz : decide ((i : Int) < (mid : Int)) = false := by simp; omega
                        have hjz : (j : Int) < (hi : Int) := by omega
                        have hjn : j < n := by omega
                        have hjnz : (j : Int) < (n : Int) := by omega
                        have hknz : (k : Int) < (n : Int) := by omega
                        have x2 := hM.at_.rx.cell hjn
                        clear HT HSO HSY Hm Hh
                        go_wp2
                        go_quiet (fail)
                        go_wp2
                        go_roundg ((mid - i) + (hi - (j + 1)))
                        case measure => go_light; omega
                        case rel => go_light; exact ⟨i, j + 1, k + 1, _, rfl, rfl, by simp, by simp, hM.takeJ _ hjh hjn hlk (fun h => absurd h him)⟩
                    · have hiz : ¬ (i : Int) < (mid : Int) := by omega
                      have hjz : ¬ (j : Int) < (hi : Int) := by omega
                      obtain rfl : mid = i := by omega
                      obtain rfl : hi = j := by omega
                      obtain rfl : hi = k := by omega
                      go_wp2
                      go_roundg (n - (l + 2 * wdt))
                      case measure => go_light; omega
                      case rel =>
                        go_light
                        have e1 := hM.whole
                        rw [seg_nil X (Nat.le_refl mid), mg_nil_left, seg_nil X (Nat.le_refl hi), List.append_nil] at e1
                        obtain ⟨hl, hsy⟩ := HSY.out
                        refine ⟨s + 1, l + 2 * wdt, Y', by rw [Nat.add_mul, ← hl]; omega, by omega, rfl, by simp, hM.at_, ?_⟩
                        rw [show l + 2 * wdt = (s + 1) * (2 * wdt) by rw [Nat.add_mul, ← hl]; omega]
                        rw [Hm.out, Hh.out, hl] at e1
                        rw [hl] at hsy
                        exact sorted_step HSO.out (by rw [← hl]; exact hln) hsy (fun q hq => hM.keep q (by rw [hl]; exact hq)) e1
            · have hlz : ¬ (l : Int) < (n : Int) := by omega
              go_wp2
              go_roundg (n - 2 * wdt)
              case measure => go_light; omega
              case rel => go_light; exact ⟨bz, bx, 2 * wdt, Y, X, by omega, by omega, rfl, rfl, rfl, by simp, hS.swap, sorted_lim HSY.out.2 (by omega)⟩
        · have hwz : ¬ (wdt : Int) < (n : Int) := by omega
          go_wp2
          go_ret
          exact ⟨bx, X, rfl, hS.since, hS.rx, hS.ox, sorted_end HSO.out (by omega)⟩
end Go.Proofs.Qxb6601390a
