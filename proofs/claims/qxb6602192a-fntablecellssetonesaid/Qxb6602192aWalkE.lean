/-
  The walk of FnTableCellsExactlyOccupied.
-/
import Derived.Test.Qxb6602192aWalkD
namespace Go.Proofs.Qxb6602192a
open Go.RowKit

theorem Grid.congrL {w : World} {ga : Option Addr} {gb go G : Nat} {A : Nat → Option Addr} {L L' C RB RO : Nat → Nat} {V : Nat → Nat → Value} (h : Grid w ga gb go G A L C RB RO V) (hL : ∀ r, r < G → L r = L' r) : Grid w ga gb go G A L' C RB RO V :=
  ⟨h.addr, fun r hr => by rw [← hL r hr]; exact h.row r hr, fun r hr => by rw [← hL r hr]; exact h.lens r hr, fun r hr c hc => h.elt r hr c (by rw [hL r hr]; exact hc)⟩
theorem Grid.below {w w' : World} {B : Nat} {ga : Option Addr} {gb go G : Nat} {A : Nat → Option Addr} {L C RB RO : Nat → Nat} {V : Nat → Nat → Value} (h : Grid w ga gb go G A L C RB RO V) (hb : Below B w w') (hB : w.heap.size ≤ B) : Grid w' ga gb go G A L C RB RO V :=
  ⟨h.addr, fun r hr => by rw [hb.cell (p := ⟨gb, go + r, none⟩) (Nat.lt_of_lt_of_le (World.block_lt_of_cell? _ _ (h.row r hr)) hB)]; exact h.row r hr, h.lens, fun r hr c hc => by
    obtain ⟨h1, h2⟩ := h.elt r hr c hc
    exact ⟨h1, by rw [hb.cell (p := ⟨RB r, RO r + c, none⟩) (Nat.lt_of_lt_of_le (World.block_lt_of_cell? _ _ h2) hB)]; exact h2⟩⟩
theorem below_drewN' {B : Nat} {a w : World} (h : Below B a w) (m : Nat) : Below B a (w.drewN m) := by
  induction m with
  | zero => exact h
  | succ m ih => exact Below.drew ih
theorem sum_row (L : Nat → Nat) {G r : Nat} (h : r < G) : L r ≤ Pl.sumTo L G := by
  have := Pl.sumTo_mono L (show r + 1 ≤ G by omega)
  simp only [Pl.sumTo] at this
  omega

theorem fr_get {S : List Pl.Cel} {i : Nat} (h : i < S.length) : fr S i = S[i].r := by simp [fr, h]
theorem fc_get {S : List Pl.Cel} {i : Nat} (h : i < S.length) : fc S i = S[i].c := by simp [fc, h]
theorem fh_get {S : List Pl.Cel} {i : Nat} (h : i < S.length) : fh S i = S[i].h := by simp [fh, h]
theorem fl_get {S : List Pl.Cel} {i : Nat} (h : i < S.length) : fl S i = S[i].l := by simp [fl, h]

theorem cells_said (T : Pl.Tab) (G : Nat) : ∀ i, i < (Pl.tabTo T G).length → fr (Pl.tabTo T G) i < G ∧ fc (Pl.tabTo T G) i < T.L (fr (Pl.tabTo T G) i) ∧ T.ok (fr (Pl.tabTo T G) i) (fc (Pl.tabTo T G) i) = true ∧
    T.hi (fr (Pl.tabTo T G) i) (fc (Pl.tabTo T G) i) = fh (Pl.tabTo T G) i ∧ T.lo (fr (Pl.tabTo T G) i) (fc (Pl.tabTo T G) i) = fl (Pl.tabTo T G) i := by
  intro i hi
  rw [fr_get hi, fc_get hi, fh_get hi, fl_get hi]
  obtain ⟨h1, h2, h3, h4, h5⟩ := Pl.tabTo_mem (List.getElem_mem hi)
  exact ⟨h1, h2, h3, h4.symm, h5.symm⟩
theorem cells_order (T : Pl.Tab) (G : Nat) : ∀ i, i + 1 < (Pl.tabTo T G).length → fr (Pl.tabTo T G) i < fr (Pl.tabTo T G) (i + 1) ∨ (fr (Pl.tabTo T G) i = fr (Pl.tabTo T G) (i + 1) ∧ fc (Pl.tabTo T G) i < fc (Pl.tabTo T G) (i + 1)) := by
  intro i hi
  rw [fr_get (show i < _ by omega), fc_get (show i < _ by omega), fr_get hi, fc_get hi]
  exact Pl.tab_lt hi

/-- What is known of the three arguments. -/
structure In3 (w : World) (ga0 : Option Addr) (gb0 go0 G0 : Nat) (A0 : Nat → Option Addr) (L0 C0 RB0 RO0 : Nat → Nat) (ok : Nat → Nat → Bool)
    (ga1 : Option Addr) (gb1 go1 G1 : Nat) (A1 : Nat → Option Addr) (L1 C1 RB1 RO1 : Nat → Nat) (hi : Nat → Nat → Int)
    (ga2 : Option Addr) (gb2 go2 G2 : Nat) (A2 : Nat → Option Addr) (L2 C2 RB2 RO2 : Nat → Nat) (lo : Nat → Nat → Int) : Prop where
  h0 : Grid w ga0 gb0 go0 G0 A0 L0 C0 RB0 RO0 (fun r c => .bool (ok r c))
  h1 : Grid w ga1 gb1 go1 G1 A1 L1 C1 RB1 RO1 (fun r c => .int .u64 (hi r c))
  h2 : Grid w ga2 gb2 go2 G2 A2 L2 C2 RB2 RO2 (fun r c => .int .u64 (lo r c))
  n0 : ∀ r, r < G0 → (A0 r).isSome = false → L0 r = 0
  n1 : ∀ r, r < G1 → (A1 r).isSome = false → L1 r = 0
  n2 : ∀ r, r < G2 → (A2 r).isSome = false → L2 r = 0
  m0 : G0 ≤ 9223372036854775807
  m1 : G1 ≤ 9223372036854775807
  m2 : G2 ≤ 9223372036854775807

set_option maxHeartbeats 8000000 in
set_option maxRecDepth 100000 in
theorem walk8 (ga0 : Option Addr) (gb0 go0 G0 gc0 : Nat) (A0 : Nat → Option Addr) (L0 C0 RB0 RO0 : Nat → Nat) (ok : Nat → Nat → Bool)
    (ga1 : Option Addr) (gb1 go1 G1 gc1 : Nat) (A1 : Nat → Option Addr) (L1 C1 RB1 RO1 : Nat → Nat) (hi : Nat → Nat → Int)
    (ga2 : Option Addr) (gb2 go2 G2 gc2 : Nat) (A2 : Nat → Option Addr) (L2 C2 RB2 RO2 : Nat → Nat) (lo : Nat → Nat → Int) (w : World)
    (I : In3 w ga0 gb0 go0 G0 A0 L0 C0 RB0 RO0 ok ga1 gb1 go1 G1 A1 L1 C1 RB1 RO1 hi ga2 gb2 go2 G2 A2 L2 C2 RB2 RO2 lo) :
    Calls Try.prog 8 #[.slice ga0 G0 gc0, .slice ga1 G1 gc1, .slice ga2 G2 gc2] w fun e w' => e = .returned (.bool true) ∧ Below w.heap.size w w' := by
  have m0 := I.m0
  have m1 := I.m1
  have m2 := I.m2
  by_cases k0 : 4096 < G0
  · go_enter Try.func8, Try.ntmps8
    go_wp2_with (go_at_call 22; refine (zz22_any _ _ _ I.h0 I.h1 I.h2 m0 m1 m2).mono ?_; rintro e w' ⟨rfl, r, rfl⟩)
    all_goals go_ret
    all_goals exact ⟨rfl, Below.refl _ _⟩
  by_cases k1 : 4096 < G1
  · go_enter Try.func8, Try.ntmps8
    go_wp2_with (go_at_call 22; refine (zz22_any _ _ _ I.h0 I.h1 I.h2 m0 m1 m2).mono ?_; rintro e w' ⟨rfl, r, rfl⟩)
    all_goals go_ret
    all_goals exact ⟨rfl, Below.refl _ _⟩
  by_cases k2 : 4096 < G2
  · go_enter Try.func8, Try.ntmps8
    go_wp2_with (go_at_call 22; refine (zz22_any _ _ _ I.h0 I.h1 I.h2 m0 m1 m2).mono ?_; rintro e w' ⟨rfl, r, rfl⟩)
    all_goals go_ret
    all_goals exact ⟨rfl, Below.refl _ _⟩
  go_enter Try.func8, Try.ntmps8
  go_wp2_with (first
    | (go_at_call 22; refine (zz22_any _ _ _ I.h0 I.h1 I.h2 m0 m1 m2).mono ?_; rintro e w' ⟨rfl, r, rfl⟩)
    | (go_at_call 23; refine (bytes_any _ _ _ I.h0 I.h1 I.h2 (by omega) (by omega) (by omega)).mono ?_; rintro e w' ⟨rfl, b, rfl, hbytes⟩)
    | (go_at_call 24; refine (shape_any _ _ _ I.h0 I.h1 I.h2 (by omega) (by omega) (by omega)).mono ?_; rintro e w' ⟨⟨nd, rfl⟩, sh, rfl, hshape⟩))
  · go_ret
    exact ⟨rfl, Below.refl _ _⟩
  · go_ret
    exact ⟨rfl, Below.refl _ _⟩
  · go_ret
    exact ⟨rfl, below_drewN' (Below.refl _ _) _⟩
  have hb' : (!b) = false := by assumption
  have hsh' : (!sh) = false := by assumption
  have hsum := hbytes (by simpa using hb')
  obtain ⟨e1, e2, hsh⟩ := hshape (by simpa using hsh')
  clear hbytes hshape
  subst e1
  subst e2
  have hL : ∀ r, r < G2 → L0 r ≤ 1048576 := fun r hr => Nat.le_trans (sum_row L0 hr) hsum
  have J0 := I.h0.below (below_drewN' (Below.refl w'.heap.size w') nd) (Nat.le_refl _)
  have J1 := (I.h1.congrL (fun r hr => (hsh r hr).1)).below (below_drewN' (Below.refl w'.heap.size w') nd) (Nat.le_refl _)
  have J2 := (I.h2.congrL (fun r hr => (hsh r hr).2)).below (below_drewN' (Below.refl w'.heap.size w') nd) (Nat.le_refl _)
  have n1 : ∀ r, r < G2 → (A1 r).isSome = false → L0 r = 0 := fun r hr hs => by rw [← (hsh r hr).1]; exact I.n1 r hr hs
  have n2 : ∀ r, r < G2 → (A2 r).isSome = false → L0 r = 0 := fun r hr hs => by rw [← (hsh r hr).2]; exact I.n2 r hr hs
  have HN1 : Hid _ := n1
  have HN2 : Hid _ := n2
  have HSH : Hid _ := hsh
  have HL : Hid _ := hL
  clear n1 n2 hsh hL
  refine (cloneBools2_any ga0 gb0 go0 G2 gc0 A0 L0 C0 RB0 RO0 ok _ J0 I.n0 (by omega) HL.out).mono ?_
  rintro e wA ⟨a0, c0, rfl, ha0, hO0, hB0, hs0⟩
  have J1 := J1.below hB0 (Nat.le_refl _)
  have J2 := J2.below hB0 (Nat.le_refl _)
  have HS0 : Hid _ := hs0
  have HA0 : Hid _ := ha0
  clear J0 hs0 ha0
  go_wp2_with fail
  refine (cloneU642_any ga1 gb1 go1 G2 gc1 A1 L0 C1 RB1 RO1 hi _ J1 HN1.out (by omega) HL.out).mono ?_
  rintro e wB ⟨a1, c1, rfl, ha1, hO1, hB1, hs1⟩
  have J2 := J2.below hB1 (Nat.le_refl _)
  have hO0 := hO0.below hB1 (fun h => by rw [HS0.out h]; exact Nat.le_refl _)
  have HS1 : Hid _ := hs1
  have HA1 : Hid _ := ha1
  clear J1 hs1 ha1
  go_wp2_with fail
  refine (cloneU642_any ga2 gb2 go2 G2 gc2 A2 L0 C2 RB2 RO2 lo _ J2 HN2.out (by omega) HL.out).mono ?_
  rintro e wC ⟨a2, c2, rfl, ha2, hO2, hB2, hs2⟩
  have hO0 := hO0.below hB2 (fun h => by have := hB1.size; rw [← HS0.out h]; omega)
  have hO1 := hO1.below hB2 (fun h => by rw [HS1.out h]; exact Nat.le_refl _)
  have HS2 : Hid _ := hs2
  have HA2 : Hid _ := ha2
  clear J2 hs2 ha2
  have HL' : ∀ r, r < G2 → L0 r ≤ 9223372036854775807 := fun r hr => by have := HL.out r hr; omega
  have K0 := hO0.grid HA0.out HL'
  have K1 := hO1.grid HA1.out HL'
  have K2 := hO2.grid HA2.out HL'
  have HLL : Hid _ := HL'
  clear HL'
  go_wp2_with fail
  refine (zzcells_any a0 _ _ G2 c0 _ ⟨L0, ok, hi, lo⟩ _ _ _ a1 _ _ c1 _ _ _ _ a2 _ _ c2 _ _ _ _ _ K0 K1 K2 (fun r hr hs => I.n0 r hr (by
    cases e : (A0 r).isSome with
    | false => rfl
    | true => simp [nA, e] at hs)) (by omega) hsum HL.out).mono ?_
  rintro e wZ ⟨N, rfl, hN, hsz, hBz, r0, r1, r2, r3⟩
  have said := cells_said ⟨L0, ok, hi, lo⟩ G2
  have order := cells_order ⟨L0, ok, hi, lo⟩ G2
  have hlen : (Pl.tabTo ⟨L0, ok, hi, lo⟩ G2).length ≤ 1048576 := Nat.le_trans (Pl.tabTo_len _ G2) hsum
  have hpart : ∀ r c, r < G2 → c ≤ L0 r → (Pl.tabTo ⟨L0, ok, hi, lo⟩ r ++ Pl.rowTo ⟨L0, ok, hi, lo⟩ r c).length ≤ 1048576 := fun r c hr hc => Nat.le_trans (Pl.part_len ⟨L0, ok, hi, lo⟩ hr hc) hsum
  have K0 := K0.below hBz (Nat.le_refl _)
  have K1 := K1.below hBz (Nat.le_refl _)
  have K2 := K2.below hBz (Nat.le_refl _)
  have hB : Below w'.heap.size w' wZ := ((((below_drewN' (Below.refl w'.heap.size w') nd).trans hB0).trans (hB1.mono hB0.size)).trans (hB2.mono (Nat.le_trans hB0.size hB1.size))).trans (hBz.mono (Nat.le_trans (Nat.le_trans hB0.size hB1.size) hB2.size))
  generalize hSe : Pl.tabTo ⟨L0, ok, hi, lo⟩ G2 = S at said order hlen r0 r1 r2 r3 ⊢
  have HSE : Hid _ := hSe
  have HSD : Hid _ := said
  have HOR : Hid _ := order
  have HB : Hid _ := hB
  have HP : Hid _ := hpart
  have hemp : (!(S.isEmpty == ((S.length : Int) == 0))) = false := by cases S <;> simp; omega
  clear hSe said order hB hpart hBz hN hsz hO0 hO1 hO2 hB0 hB1 hB2 HS0 HS1 HS2 HA0 HA1 HA2 J1 J2 HN1 HN2 HSH HLL I hb' hsh'
  generalize (w'.drewN nd).heap.size = N0 at K0
  generalize wA.heap.size = N1 at K1
  generalize wB.heap.size = N2 at K2
  go_wp2_with fail
  clear hemp
  go_loopw [13] (fun s13 wr => ∃ (k m : Nat), k ≤ S.length ∧ s13 = .int .i64 k ∧ wr = wZ.drewN m) (fun i _ => S.length - (intOf i).toNat)
  case atStart => exact ⟨0, 0, Nat.zero_le _, rfl, rfl⟩
  case round =>
    obtain ⟨k, m, hk, rfl, rfl⟩ := hrel
    by_cases hkl : k < S.length
    · have hkz : (k : Int) < (S.length : Int) := by omega
      obtain ⟨s1, s2, s3, s4, s5⟩ := HSD.out k hkl
      have c0 : wZ.cell? ⟨N, k, none⟩ = some (.int .i64 (fr S k)) := r0.cell hkl
      have c1 : wZ.cell? ⟨N + 1, k, none⟩ = some (.int .i64 (fc S k)) := r1.cell hkl
      have c2 : wZ.cell? ⟨N + 2, k, none⟩ = some (.int .u64 (fh S k)) := r2.cell hkl
      have c3 : wZ.cell? ⟨N + 3, k, none⟩ = some (.int .u64 (fl S k)) := r3.cell hkl
      obtain rfl := K0.addr (by omega)
      obtain rfl := K1.addr (by omega)
      obtain rfl := K2.addr (by omega)
      obtain ⟨x1, x2⟩ := K0.elt _ s1 _ s2
      obtain ⟨x3, x4⟩ := K1.elt _ s1 _ s2
      obtain ⟨x5, x6⟩ := K2.elt _ s1 _ s2
      have y1 := K0.row _ s1
      have y2 := K1.row _ s1
      have y3 := K2.row _ s1
      simp only [Nat.zero_add] at x1 x2 x3 x4 x5 x6 y1 y2 y3
      rw [x1] at y1
      rw [x3] at y2
      rw [x5] at y3
      rw [s3] at x2
      rw [s4] at x4
      rw [s5] at x6
      have z1 : (fr S k : Int) < (G2 : Int) := by omega
      have z2 : (fc S k : Int) < (L0 (fr S k) : Int) := by omega
      clear s3 s4 s5 x1 x3 x5
      by_cases hk0 : k = 0
      · have hkd : ¬ (0 : Int) < (k : Int) := by omega
        clear hk0
        go_wp2_with fail
        go_quiet (fail)
        go_wp2_with fail
        go_roundw
        case rel => exact ⟨k + 1, m + nq, by omega, by go_num, by simp⟩
        case measure => simp [intOf]; omega
      · obtain ⟨j, rfl⟩ : ∃ j, k = j + 1 := ⟨k - 1, by omega⟩
        have hkd : (0 : Int) < ((j + 1 : Nat) : Int) := by omega
        have hjl : j < S.length := by omega
        have c4 : wZ.cell? ⟨N, j, none⟩ = some (.int .i64 (fr S j)) := r0.cell hjl
        have c5 : wZ.cell? ⟨N + 1, j, none⟩ = some (.int .i64 (fc S j)) := r1.cell hjl
        have hjz : (j : Int) < (S.length : Int) := by omega
        rcases HOR.out j hkl with ho | ⟨ho1, ho2⟩
        · have hoz : (fr S j : Int) < (fr S (j + 1) : Int) := by omega
          clear hk0
          go_wp2_with fail
          go_quiet (fail)
          go_wp2_with fail
          go_roundw
          case rel => exact ⟨j + 1 + 1, m + nq, by omega, by go_num, by simp⟩
          case measure => simp [intOf]; omega
        · have hoz : ¬ (fr S j : Int) < (fr S (j + 1) : Int) := by omega
          have hoz1 : ((fr S j : Int) == (fr S (j + 1) : Int)) = true := by simp [ho1]
          have hoz2 : (fc S j : Int) < (fc S (j + 1) : Int) := by omega
          clear hk0 ho1
          go_wp2_with fail
          go_quiet (fail)
          go_wp2_with fail
          go_roundw
          case rel => exact ⟨j + 1 + 1, m + nq, by omega, by go_num, by simp⟩
          case measure => simp [intOf]; omega
    · have hkz : ¬ (k : Int) < (S.length : Int) := by omega
      go_wp2_with fail
      go_loop [16, 17] (fun s16 s17 => ∃ r : Nat, r ≤ G2 ∧ s17 = .int .i64 r ∧ s16 = .int .i64 (Pl.tabTo ⟨L0, ok, hi, lo⟩ r).length) (fun _ i => G2 - (intOf i).toNat)
      case atStart => exact ⟨0, Nat.zero_le _, rfl, rfl⟩
      case round =>
        obtain ⟨r, hr, rfl, rfl⟩ := hrel
        by_cases hrG : r < G2
        · have hrz : (r : Int) < (G2 : Int) := by omega
          have hLr := HL.out r hrG
          obtain rfl := K0.addr (by omega)
          have y1 := K0.row r hrG
          simp only [Nat.zero_add] at y1
          go_wp2_with fail
          go_loop [16, 18] (fun s16 s18 => ∃ c : Nat, c ≤ L0 r ∧ s18 = .int .i64 c ∧ s16 = .int .i64 (Pl.tabTo ⟨L0, ok, hi, lo⟩ r ++ Pl.rowTo ⟨L0, ok, hi, lo⟩ r c).length) (fun _ i => L0 r - (intOf i).toNat)
          case atStart => exact ⟨0, Nat.zero_le _, rfl, by simp [Pl.rowTo]⟩
          case round =>
            obtain ⟨c, hc, rfl, rfl⟩ := hrel
            have hp := HP.out r c hrG hc
            by_cases hcL : c < L0 r
            · have hcz : (c : Int) < (L0 r : Int) := by omega
              obtain ⟨x1, x2⟩ := K0.elt r hrG c hcL
              simp only [Nat.zero_add] at x1 x2
              have y2 := y1
              rw [x1] at y2
              clear y1 x1
              cases hok : ok r c with
              | false =>
                rw [hok] at x2
                have hE : (Pl.tabTo ⟨L0, ok, hi, lo⟩ r ++ Pl.rowTo ⟨L0, ok, hi, lo⟩ r (c + 1)).length = (Pl.tabTo ⟨L0, ok, hi, lo⟩ r ++ Pl.rowTo ⟨L0, ok, hi, lo⟩ r c).length := by simp [Pl.rowTo, Pl.one, hok]
                have HE : Hid _ := hE
                clear hok hE
                generalize hz : (Pl.tabTo ⟨L0, ok, hi, lo⟩ r ++ Pl.rowTo ⟨L0, ok, hi, lo⟩ r c).length = z at hp ⊢
                have HZ : Hid _ := hz
                clear hz
                go_wp2_with fail
                go_round
                case rel => exact ⟨c + 1, by omega, by go_num, by rw [HE.out, HZ.out]⟩
                case measure => simp [intOf]; omega
              | true =>
                rw [hok] at x2
                have hE : (Pl.tabTo ⟨L0, ok, hi, lo⟩ r ++ Pl.rowTo ⟨L0, ok, hi, lo⟩ r (c + 1)).length = (Pl.tabTo ⟨L0, ok, hi, lo⟩ r ++ Pl.rowTo ⟨L0, ok, hi, lo⟩ r c).length + 1 := by simp [Pl.rowTo, Pl.one, hok, Nat.add_assoc]
                have HE : Hid _ := hE
                clear hok hE
                generalize hz : (Pl.tabTo ⟨L0, ok, hi, lo⟩ r ++ Pl.rowTo ⟨L0, ok, hi, lo⟩ r c).length = z at hp ⊢
                have HZ : Hid _ := hz
                clear hz
                go_wp2_with fail
                go_round
                case rel => exact ⟨c + 1, by omega, by go_num, by rw [HE.out, HZ.out]; go_num⟩
                case measure => simp [intOf]; omega
            · have hcz : ¬ (c : Int) < (L0 r : Int) := by omega
              obtain rfl : c = L0 r := by omega
              go_wp2_with fail
              go_round
              case rel => exact ⟨r + 1, by omega, by go_num, by simp [Pl.tabTo]⟩
              case measure => simp [intOf]; omega
        · have hrz : ¬ (r : Int) < (G2 : Int) := by omega
          obtain rfl : r = G2 := by omega
          rw [HSE.out]
          go_wp2_with fail
          go_ret
          exact ⟨by simp, below_drewN' HB.out _⟩
end Go.Proofs.Qxb6602192a
