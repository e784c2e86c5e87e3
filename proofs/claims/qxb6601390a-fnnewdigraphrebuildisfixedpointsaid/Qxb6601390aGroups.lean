/-
  FnNewDigraphGroupsArcsStablyByTail (5): the law's walk.
-/
import Derived.Test.Qxb6601390aSort
namespace Go.Proofs.Qxb6601390a
open Go.RowKit Plain

/-! ### The plain law: the order that the merge sort finds is the digraph's. -/
def arcAt (all : List Arc) (p : Nat) : Arc := (all[p]?).getD (0, 0, 0)
theorem fldAt_arcAt (all : List Arc) (fld : Arc → Int) (h0 : fld (0, 0, 0) = 0) (p : Nat) : fldAt all fld p = fld (arcAt all p) := by
  simp only [fldAt, arcAt]
  cases all[p]? with
  | none => exact h0.symm
  | some a => rfl
theorem map_arcAt (all : List Arc) : (List.range all.length).map (arcAt all) = all := by
  apply List.ext_getElem?
  intro i
  by_cases h : i < all.length
  · rw [List.getElem?_map, List.getElem?_range h]
    simp [arcAt, h]
  · rw [List.getElem?_eq_none (by simp; omega), List.getElem?_eq_none (by omega)]
theorem bk_map (all : List Arc) (n : Nat) : (bk (fldAt all (·.1)) (List.range all.length) n).map (arcAt all) = bucket all n := by
  induction n with
  | zero => rfl
  | succ n ih =>
    simp only [bk, bucket, List.map_append, ih]
    congr 1
    simp only [pickN, pick]
    have e : all.filter (fun a => a.1 == (n : Int)) = ((List.range all.length).map (arcAt all)).filter (fun a => a.1 == (n : Int)) := by rw [map_arcAt]
    rw [e, List.filter_map]
    congr 1
    apply List.filter_congr
    intro p _
    rw [fldAt_arcAt all (·.1) rfl]
    rfl
theorem seg_get (X : Nat → Nat) {n q : Nat} (h : q < n) : (seg X 0 n)[q]? = some (X q) := by
  simp only [seg, List.getElem?_map]
  rw [List.getElem?_range' (by omega)]
  simp
/-- Arc number q of the sorted arcs is the arc at the order's q. -/
theorem order_at {all : List Arc} {n : Nat} {X : Nat → Nat} (h : seg X 0 all.length = bk (fldAt all (·.1)) (List.range all.length) n) {q : Nat} (hq : q < all.length) : (bucket all n)[q]? = some (arcAt all (X q)) := by
  rw [← bk_map all n, ← h, List.getElem?_map, seg_get X hq]
  rfl
theorem head_order {all : List Arc} {n : Nat} {X : Nat → Nat} (h : seg X 0 all.length = bk (fldAt all (·.1)) (List.range all.length) n) {q : Nat} (hq : q < all.length) : headAt all n q = fldAt all (·.2.1) (X q) := by
  rw [headAt, order_at h hq, fldAt_arcAt all (·.2.1) rfl]; rfl
theorem item_order {all : List Arc} {n : Nat} {X : Nat → Nat} (h : seg X 0 all.length = bk (fldAt all (·.1)) (List.range all.length) n) {q : Nat} (hq : q < all.length) : itemAt all n q = fldAt all (·.2.2) (X q) := by
  rw [itemAt, order_at h hq, fldAt_arcAt all (·.2.2) rfl]; rfl
/-- The tail at place q of the order is below u just where q is below 'cum u'. -/
theorem tail_order {all : List Arc} {n : Nat} {X : Nat → Nat} (hin : InR all n) (h : seg X 0 all.length = bk (fldAt all (·.1)) (List.range all.length) n) {q : Nat} (hq : q < all.length) (u : Nat) : fldAt all (·.1) (X q) < (u : Int) ↔ q < cum all u := by
  have hc := cum_all all n hin
  obtain ⟨v, j, hv, hj, he⟩ := in_bucket all n q (by omega)
  have hb := order_at h hq
  rw [he, bucket_get all n v j hv hj] at hb
  have hm : arcAt all (X q) ∈ pick all v := by rw [← he] at hb; exact List.mem_of_getElem? hb
  have hk : (arcAt all (X q)).1 = (v : Int) := by
    simp only [pick, List.mem_filter, beq_iff_eq] at hm
    exact hm.2
  rw [fldAt_arcAt all (·.1) rfl, hk]
  have hcv := cum_mono all (u := v) (v := u)
  have hcu := cum_mono all (u := u) (v := v)
  have hc1 := cum_one all (v := v) (n := u)
  constructor
  · intro hlt; have := hc1 (by omega); omega
  · intro hlt
    by_cases hvu : v < u
    · omega
    · have := hcu (by omega); omega

theorem key_order {all : List Arc} {n : Nat} (hin : InR all n) {p : Nat} (hp : p < all.length) : 0 ≤ fldAt all (·.1) p ∧ fldAt all (·.1) p < (n : Int) := by
  simp only [fldAt, List.getElem?_eq_getElem hp]
  exact hin _ (List.getElem_mem hp)

theorem rowIs_later {w w' : World} {b : Nat} {t : TypeId} {n : Nat} {f : Nat → Value} (h : w.rowIs b t n f) {B : Nat} (s : w.Since B w') (hB : w.heap.size ≤ B) : w'.rowIs b t n f :=
  h.of_block (s.block _ (Nat.lt_of_lt_of_le h.lt hB))

/-- A chain of calls, each of which turns nothing that was there. -/
theorem since_chain {w a b : World} (h : w.Since w.heap.size a) (k : a.Since a.heap.size b) : w.Since w.heap.size b :=
  h.trans ⟨k.os, k.tape, k.output, k.size, fun i hi => k.block i (Nat.lt_of_lt_of_le hi h.size)⟩

set_option maxHeartbeats 1600000 in
set_option maxRecDepth 100000 in
theorem law5 (n0 : Int) {w : World} {ga : Option Addr} {G Gc : Nat} {A : Nat → Option Addr} {L C RB RO : Nat → Nat} {T H I : Nat → Nat → Int} {gb go : Nat}
    (g : GridAt w ga G A L C RB RO T H I gb go) :
    Calls Try.prog 5 #[.int .i64 n0, .slice ga G Gc] w fun e w' => e = .returned (.bool true) ∧ w.Since w.heap.size w' := by
  have HG : Aside (GridAt w ga G A L C RB RO T H I gb go) := g
  clear g
  go_enter Try.func5, Try.ntmps5
  go_wp2_with fail
  refine (bytes35 n0 HG.out).mono ?_
  rintro e w1 ⟨⟨b, rfl, -⟩, rfl⟩
  cases b
  · go_wp2
    go_ret
    exact ⟨rfl, World.Since.refl _ _⟩
  go_wp2_with fail
  refine (fit36 HG.out).mono ?_
  rintro e w2 ⟨⟨b, rfl, hfit⟩, rfl⟩
  cases b
  · clear hfit
    go_wp2
    go_ret
    exact ⟨rfl, World.Since.refl _ _⟩
  have HFIT : Aside (FitOK G L) := hfit rfl
  clear hfit
  go_wp2_with fail
  refine (domain37 n0 HG.out).mono ?_
  rintro e w3 ⟨⟨b, rfl, hdom⟩, rfl⟩
  cases b
  · clear hdom
    go_wp2
    go_ret
    exact ⟨rfl, World.Since.refl _ _⟩
  have hdom1 := hdom rfl
  obtain ⟨n, rfl⟩ : ∃ n : Nat, n0 = n := ⟨n0.toNat, by have := hdom1.1; omega⟩
  have hn1 : n ≤ 65536 := by have := hdom1.2.1; omega
  have HD : Aside (DomOK n G L T) := hdom1
  clear hdom hdom1
  go_wp2_with fail
  refine (arcs39_any HG.out HFIT.out.size).mono ?_
  rintro e w4 ⟨pb, ga', A', C', RB', RO', gb', go', rfl, hp, g4, s4⟩
  go_wp2_with fail
  refine (dig38 hp g4 HFIT.out.size HD.out).mono ?_
  rintro e w5 ⟨sb, hb, ib, rfl, s5, hd, h1, h2, h3⟩
  obtain ⟨all, HALL⟩ : ∃ all, Aside (flatTo L T H I G = all) := ⟨_, rfl⟩
  have hlen : all.length = sumTo L G := by rw [← HALL.out, length_flatTo]
  have hlen2 : all.length ≤ 1048576 := by have := HFIT.out.size.2; omega
  have HIN : Aside (InR all n) := by rw [← HALL.out]; exact flatTo_inR L T H I HD.out.2.2
  have s05 := since_chain s4 s5
  rw [HALL.out] at hd ⊢
  have HDG : Aside (DigAt w5 n all sb hb ib) := hd
  obtain ⟨m, Hm⟩ : ∃ m, Aside (all.length = m) := ⟨_, rfl⟩
  rw [Hm.out] at hlen2
  unfold digV
  rw [Hm.out]
  clear hlen g4 hp s4 s5 h1 h2 h3 hd
  go_wp2_with fail
  refine (start40 _ _ _ _ _ _ _ rfl).mono ?_
  rintro e w6 ⟨rfl, s6⟩
  have r6 : w6.rowIs w5.heap.size 72 3 (dCell (.slice (some ⟨sb, 0, none⟩) (n + 1) (n + 1)) (.slice (some ⟨hb, 0, none⟩) m m) (.slice (some ⟨ib, 0, none⟩) m m)) := rowIs_later (World.rowIs_alloc w5 #[.slice (some ⟨sb, 0, none⟩) (n + 1) (n + 1), .slice (some ⟨hb, 0, none⟩) m m, .slice (some ⟨ib, 0, none⟩) m m] 72 _ (fun i hi => by
    have : i = 0 ∨ i = 1 ∨ i = 2 := by simp at hi; omega
    rcases this with rfl | rfl | rfl <;> rfl)) s6 (Nat.le_refl _)
  have s06 := since_chain (s05.alloc s05.size _) s6
  have HDG6 : Aside (DigAt w6 n all sb hb ib) := ⟨rowIs_later (HDG.out.start.alloc _) s6 (Nat.le_refl _), rowIs_later (HDG.out.heads.alloc _) s6 (Nat.le_refl _), rowIs_later (HDG.out.items.alloc _) s6 (Nat.le_refl _)⟩
  have c0 : w6.cell? ⟨w5.heap.size, 0, none⟩ = some (.slice (some ⟨sb, 0, none⟩) (n + 1) (n + 1)) := r6.cell (i := 0) (by omega)
  have c1 : w6.cell? ⟨w5.heap.size, 1, none⟩ = some (.slice (some ⟨hb, 0, none⟩) m m) := r6.cell (i := 1) (by omega)
  have c2 : w6.cell? ⟨w5.heap.size, 2, none⟩ = some (.slice (some ⟨ib, 0, none⟩) m m) := r6.cell (i := 2) (by omega)
  clear HDG s6 s05
  go_wp2_with fail
  refine (heads41 _ _ _ _ _ _ _ rfl).mono ?_
  rintro e w7 ⟨rfl, s7⟩
  have r7 := rowIs_later r6 s7 (Nat.le_refl _)
  have HDG7 : Aside (DigAt w7 n all sb hb ib) := ⟨rowIs_later HDG6.out.start s7 (Nat.le_refl _), rowIs_later HDG6.out.heads s7 (Nat.le_refl _), rowIs_later HDG6.out.items s7 (Nat.le_refl _)⟩
  have s07 := since_chain s06 s7
  clear r6 c0 c1 c2 s7 s06 HDG6
  have c0 : w7.cell? ⟨w5.heap.size, 0, none⟩ = some (.slice (some ⟨sb, 0, none⟩) (n + 1) (n + 1)) := r7.cell (i := 0) (by omega)
  have c1 : w7.cell? ⟨w5.heap.size, 1, none⟩ = some (.slice (some ⟨hb, 0, none⟩) m m) := r7.cell (i := 1) (by omega)
  have c2 : w7.cell? ⟨w5.heap.size, 2, none⟩ = some (.slice (some ⟨ib, 0, none⟩) m m) := r7.cell (i := 2) (by omega)
  go_wp2_with fail
  refine (items42 _ _ _ _ _ _ _ rfl).mono ?_
  rintro e w8 ⟨rfl, s8⟩
  have HDG8 : Aside (DigAt w8 n all sb hb ib) := ⟨rowIs_later HDG7.out.start s8 (Nat.le_refl _), rowIs_later HDG7.out.heads s8 (Nat.le_refl _), rowIs_later HDG7.out.items s8 (Nat.le_refl _)⟩
  have s08 := since_chain s07 s8
  clear r7 c0 c1 c2 s8 s07 HDG7
  go_wp2_with fail
  refine (flatten43 (HG.out.later s08 (Nat.le_refl _)) HFIT.out.size).mono ?_
  rintro e w9 ⟨tb, fb, lb, rfl, s9, hf, -, -, -⟩
  rw [HALL.out] at hf ⊢
  rw [Hm.out] at hf ⊢
  have HDG9 : Aside (DigAt w9 n all sb hb ib) := ⟨rowIs_later HDG8.out.start s9 (Nat.le_refl _), rowIs_later HDG8.out.heads s9 (Nat.le_refl _), rowIs_later HDG8.out.items s9 (Nat.le_refl _)⟩
  have s09 := since_chain s08 s9
  have HF9 : Aside (FlatAt w9 m all tb fb lb) := hf
  clear s9 s08 HDG8 hf
  go_wp2_with fail
  refine (stable44 (τ := fldAt all (·.1)) (IntsAt.ofRow HF9.out.tails) hlen2 n (fun p hp => key_order HIN.out (by have := Hm.out; omega))).mono ?_
  rintro e w10 ⟨ob, X, rfl, s10, ho, hox, hseg⟩
  have HDG10 : Aside (DigAt w10 n all sb hb ib) := ⟨rowIs_later HDG9.out.start s10 (Nat.le_refl _), rowIs_later HDG9.out.heads s10 (Nat.le_refl _), rowIs_later HDG9.out.items s10 (Nat.le_refl _)⟩
  have HF10 : Aside (FlatAt w10 m all tb fb lb) := ⟨rowIs_later HF9.out.tails s10 (Nat.le_refl _), rowIs_later HF9.out.heads s10 (Nat.le_refl _), rowIs_later HF9.out.items s10 (Nat.le_refl _)⟩
  have s010 := since_chain s09 s10
  clear s10 s09 HDG9 HF9
  have HO : Aside ((∀ q, q < m → X q < m) ∧ seg X 0 m = bk (fldAt all (·.1)) (List.range m) n) := ⟨hox, hseg⟩
  clear hox hseg
  have hcn : cum all n = m := by rw [cum_all all n HIN.out]; exact Hm.out
  have HCN : Aside (cum all n = m) := hcn
  clear hcn
  have t1 : (((n + 1 : Nat) : Int) != (n : Int) + 1) = false := by simp
  have t2 : ((m : Int) != (m : Int)) = false := by simp
  have k0 : w10.cell? ⟨sb, 0, none⟩ = some (.int .i64 0) := HDG10.out.start.cell (i := 0) (by omega)
  go_wp2
  clear t1 t2 k0
  go_loopg [14, 15] n (fun k p i wr => wr = w10 ∧ ∃ v : Nat, v ≤ n ∧ k = n - v ∧ i = .int .i64 v ∧ p = .int .i64 (cum all v : Int))
  case atStart => exact ⟨rfl, 0, Nat.zero_le _, rfl, rfl, rfl⟩
  case round =>
    obtain ⟨rfl, v, hv, rfl, rfl, rfl⟩ := hrel
    by_cases hvn : v < n
    · have hvz : (v : Int) < (n : Int) := by omega
      have hc1 : cum all v ≤ cum all (v + 1) := cum_mono all (by omega)
      have hc2 : cum all (v + 1) ≤ m := by rw [← HCN.out]; exact cum_mono all (by omega)
      go_wp2
      go_loopg [14] (cum all (v + 1) - cum all v) (fun k p wi => wi = wr ∧ ∃ q : Nat, q ≤ cum all (v + 1) ∧ k = cum all (v + 1) - q ∧ p = .int .i64 (q : Int))
      case atStart => exact ⟨rfl, cum all v, hc1, rfl, rfl⟩
      case round =>
        obtain ⟨rfl, q, hq, rfl, rfl⟩ := hrel
        by_cases hqm : q < m
        · have hqz : (q : Int) < (m : Int) := by omega
          have x1 := ho.cell hqm
          have o1 := HO.out.1 q hqm
          have o1z : ((X q : Nat) : Int) < (m : Int) := by omega
          have y1 := HF10.out.tails.cell o1
          have hto := tail_order HIN.out (by rw [Hm.out]; exact HO.out.2) (q := q) (by rw [Hm.out]; exact hqm) (v + 1)
          obtain ⟨kb1, kb2⟩ := key_order HIN.out (p := X q) (by rw [Hm.out]; exact o1)
          obtain ⟨z, Hz⟩ : ∃ z, Aside (fldAt all (·.1) (X q) = z) := ⟨_, rfl⟩
          rw [Hz.out] at hto kb1 kb2 y1
          by_cases hqc : q < cum all (v + 1)
          · have hz : z ≤ (v : Int) := by have := hto.2 hqc; omega
            clear hto
            go_wp2
            go_roundg (cum all (v + 1) - (q + 1))
            case measure => go_light; omega
            case rel => go_light; exact ⟨rfl, q + 1, by omega, rfl, by simp⟩
          · have hz : ¬ z ≤ (v : Int) := by intro h; exact hqc (hto.1 (by omega))
            clear hto
            obtain ⟨u, Hu⟩ : ∃ u, Aside (cum all (v + 1) = u) := ⟨_, rfl⟩
            have k1 : wr.cell? ⟨sb, v + 1, none⟩ = some (.int .i64 (q : Int)) := by
              rw [HDG10.out.start.cell (i := v + 1) (by omega), show cum all (v + 1) = q by omega]
            have t1 : ((q : Int) != (q : Int)) = false := by simp
            go_wp2
            go_roundg (n - (v + 1))
            case measure => go_light; omega
            case rel => go_light; exact ⟨rfl, v + 1, by omega, rfl, by simp, congrArg (Value.int .i64) (by omega)⟩
        · have hqz : ¬ (q : Int) < (m : Int) := by omega
          have k1 : wr.cell? ⟨sb, v + 1, none⟩ = some (.int .i64 (q : Int)) := by
            rw [HDG10.out.start.cell (i := v + 1) (by omega), show cum all (v + 1) = q by omega]
          have t1 : ((q : Int) != (q : Int)) = false := by simp
          go_wp2
          go_roundg (n - (v + 1))
          case measure => go_light; omega
          case rel => go_light; exact ⟨rfl, v + 1, by omega, rfl, by simp, congrArg (Value.int .i64) (by omega)⟩
    · have hvz : ¬ (v : Int) < (n : Int) := by omega
      go_wp2
      obtain ⟨w11, rfl⟩ : ∃ w11 : World, w11 = wr := ⟨_, rfl⟩
      go_loopg [16] m (fun k i wi => ∃ q : Nat, q ≤ m ∧ k = m - q ∧ i = .int .i64 (q : Int) ∧ ∃ nd, wi = w11.drewN nd)
      case atStart => exact ⟨0, Nat.zero_le _, rfl, rfl, 0, rfl⟩
      case round =>
        obtain ⟨q, hq, rfl, rfl, nd, rfl⟩ := hrel
        by_cases hqm : q < m
        · have hqz : (q : Int) < (m : Int) := by omega
          have x1 := ho.cell hqm
          have o1 := HO.out.1 q hqm
          have o1z : ((X q : Nat) : Int) < (m : Int) := by omega
          have y1 := HF10.out.heads.cell o1
          have y2 := HF10.out.items.cell o1
          have d1 := HDG10.out.heads.cell (i := q) (by rw [Hm.out]; exact hqm)
          have d2 := HDG10.out.items.cell (i := q) (by rw [Hm.out]; exact hqm)
          rw [head_order (by rw [Hm.out]; exact HO.out.2) (by rw [Hm.out]; exact hqm)] at d1
          rw [item_order (by rw [Hm.out]; exact HO.out.2) (by rw [Hm.out]; exact hqm)] at d2
          obtain ⟨z1, Hz1⟩ : ∃ z, Aside (fldAt all (·.2.1) (X q) = z) := ⟨_, rfl⟩
          obtain ⟨z2, Hz2⟩ : ∃ z, Aside (fldAt all (·.2.2) (X q) = z) := ⟨_, rfl⟩
          rw [Hz1.out] at d1 y1
          rw [Hz2.out] at d2 y2
          have e1 : (z1 != z1) = false := by simp
          have e2 : (z2 != z2) = false := by simp
          go_wp2
          go_quiet (fail)
          go_wp2
          go_roundg (m - (q + 1))
          case measure => go_light; omega
          case rel => go_light; exact ⟨q + 1, by omega, rfl, by simp, _, rfl⟩
        · have hqz : ¬ (q : Int) < (m : Int) := by omega
          go_wp2
          go_ret
          exact ⟨rfl, since_drewN s010 _⟩
end Go.Proofs.Qxb6601390a
