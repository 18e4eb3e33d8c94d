/-
  The walk of FnTableCellsSetOne, where the slot lies in the table.
-/
import Derived.Test.Qxb6602192aWalkG
namespace Go.Proofs.Qxb6602192a
open Go.RowKit

/-- Four slices that hold S', beside the four that were answered. -/
def EndF (W : World) (N' : Nat) (S' : List Pl.Cel) (v0 v1 v2 v3 : Value) : Prop :=
  (∃ (a : Option Addr) (b c : Nat), v0 = .slice a S'.length c ∧ Col .i64 W a b S'.length (fun i => fr S' i)) ∧ (∃ (a : Option Addr) (b c : Nat), v1 = .slice a S'.length c ∧ Col .i64 W a b S'.length (fun i => fc S' i)) ∧
  (∃ (a : Option Addr) (b c : Nat), v2 = .slice a S'.length c ∧ Col .u64 W a b S'.length (fun i => fh S' i)) ∧ (∃ (a : Option Addr) (b c : Nat), v3 = .slice a S'.length c ∧ Col .u64 W a b S'.length (fun i => fl S' i)) ∧
  Col .i64 W (some ⟨N', 0, none⟩) N' S'.length (fun i => fr S' i) ∧ Col .i64 W (some ⟨N' + 1, 0, none⟩) (N' + 1) S'.length (fun i => fc S' i) ∧ Col .u64 W (some ⟨N' + 2, 0, none⟩) (N' + 2) S'.length (fun i => fh S' i) ∧ Col .u64 W (some ⟨N' + 3, 0, none⟩) (N' + 3) S'.length (fun i => fl S' i)

theorem endF_of {base : Nat} {wY W : World} {N' : Nat} {S' : List Pl.Cel} {v0 v1 v2 v3 : Value} (O : OwnF base W v0 v1 v2 v3 (xr S') (xc S') (xh S') (xl S')) (hW : Below base wY W) (hN : N' + 4 ≤ base)
    (q0 : wY.rowIs N' 3 S'.length (fun i => .int .i64 (fr S' i))) (q1 : wY.rowIs (N' + 1) 3 S'.length (fun i => .int .i64 (fc S' i))) (q2 : wY.rowIs (N' + 2) 22 S'.length (fun i => .int .u64 (fh S' i))) (q3 : wY.rowIs (N' + 3) 22 S'.length (fun i => .int .u64 (fl S' i)))
    (_ : wY.heap.size = base) : EndF W N' S' v0 v1 v2 v3 := by
  have g0 := O.own 0 (by decide)
  have g1 := O.own 1 (by decide)
  have g2 := O.own 2 (by decide)
  have g3 := O.own 3 (by decide)
  simp only [vec4, eT] at g0 g1 g2 g3
  obtain ⟨a0, b0, c0, e0, k0⟩ := own_col (l := S'.map fun x => (x.r : Int)) (by simp [xr]) g0
  obtain ⟨a1, b1, c1, e1, k1⟩ := own_col (l := S'.map fun x => (x.c : Int)) (by simp [xc]) g1
  obtain ⟨a2, b2, c2, e2, k2⟩ := own_col (l := S'.map fun x => x.h) (by simp [xh]) g2
  obtain ⟨a3, b3, c3, e3, k3⟩ := own_col (l := S'.map fun x => x.l) (by simp [xl]) g3
  simp only [xr, xc, xh, xl, List.length_map] at e0 e1 e2 e3 k0 k1 k2 k3
  have p0 : ∀ i, i < S'.length → (S'.map fun x => (x.r : Int)).getD i 0 = (fr S' i : Int) := fun i hi => by simp [fr, hi]
  have p1 : ∀ i, i < S'.length → (S'.map fun x => (x.c : Int)).getD i 0 = (fc S' i : Int) := fun i hi => by simp [fc, hi]
  refine ⟨⟨a0, b0, c0, e0, k0.addr, fun i hi => by rw [k0.cell i hi, p0 i hi]⟩, ⟨a1, b1, c1, e1, k1.addr, fun i hi => by rw [k1.cell i hi, p1 i hi]⟩, ⟨a2, b2, c2, e2, k2⟩, ⟨a3, b3, c3, e3, k3⟩, ⟨fun _ => rfl, fun i hi => ?_⟩, ⟨fun _ => rfl, fun i hi => ?_⟩, ⟨fun _ => rfl, fun i hi => ?_⟩, ⟨fun _ => rfl, fun i hi => ?_⟩⟩
  · rw [hW.cell (p := ⟨N', i, none⟩) (by show N' < base; omega)]; exact q0.cell hi
  · rw [hW.cell (p := ⟨N' + 1, i, none⟩) (by show N' + 1 < base; omega)]; exact q1.cell hi
  · rw [hW.cell (p := ⟨N' + 2, i, none⟩) (by show N' + 2 < base; omega)]; exact q2.cell hi
  · rw [hW.cell (p := ⟨N' + 3, i, none⟩) (by show N' + 3 < base; omega)]; exact q3.cell hi

theorem below_size {B base : Nat} {w w' : World} (h : Below B w w') (hb : w.heap.size = base) : base ≤ w'.heap.size := by rw [← hb]; exact h.size

set_option maxHeartbeats 16000000 in
set_option maxRecDepth 100000 in
theorem walk9_in (ga0 : Option Addr) (gb0 go0 G0 gc0 : Nat) (A0 : Nat → Option Addr) (L0 C0 RB0 RO0 : Nat → Nat) (ok : Nat → Nat → Bool)
    (ga1 : Option Addr) (gb1 go1 G1 gc1 : Nat) (A1 : Nat → Option Addr) (L1 C1 RB1 RO1 : Nat → Nat) (hi : Nat → Nat → Int)
    (ga2 : Option Addr) (gb2 go2 G2 gc2 : Nat) (A2 : Nat → Option Addr) (L2 C2 RB2 RO2 : Nat → Nat) (lo : Nat → Nat → Int) (R C : Nat) (yh yl : Int) (w : World)
    (I : In3 w ga0 gb0 go0 G0 A0 L0 C0 RB0 RO0 ok ga1 gb1 go1 G1 A1 L1 C1 RB1 RO1 hi ga2 gb2 go2 G2 A2 L2 C2 RB2 RO2 lo)
    (k0 : ¬ 4096 < G0) (k1 : ¬ 4096 < G1) (k2 : ¬ 4096 < G2) (hR : R < G0) (hC : C < L0 R) :
    Calls Try.prog 9 #[.slice ga0 G0 gc0, .slice ga1 G1 gc1, .slice ga2 G2 gc2, .int .i64 R, .int .i64 C, .int .u64 yh, .int .u64 yl] w fun e w' => e = .returned (.bool true) ∧ Below w.heap.size w w' := by
  have m0 := I.m0
  have m1 := I.m1
  have m2 := I.m2
  obtain rfl := I.h0.addr (by omega)
  have hrow := I.h0.row R hR
  have hRz : (R : Int) < (G0 : Int) := by omega
  have hCz : (C : Int) < (L0 R : Int) := by omega
  go_enter Try.func9, Try.ntmps9
  go_wp2_with (first
    | (go_at_call 28; refine (zz28_any _ _ _ _ _ _ _ I.h0 I.h1 I.h2 m0 m1 m2).mono ?_; rintro e w' ⟨rfl, r, rfl⟩)
    | (go_at_call 23; refine (bytes_any _ _ _ I.h0 I.h1 I.h2 (by omega) (by omega) (by omega)).mono ?_; rintro e w' ⟨rfl, b, rfl, hbytes⟩)
    | (go_at_call 24; refine (shape_any _ _ _ I.h0 I.h1 I.h2 (by omega) (by omega) (by omega)).mono ?_; rintro e w' ⟨⟨nd, rfl⟩, sh, rfl, hshape⟩))
  · go_ret
    exact ⟨rfl, Below.refl _ _⟩
  · go_ret
    exact ⟨rfl, Below.refl _ _⟩
  · go_ret
    exact ⟨rfl, below_drewN' (Below.refl _ _) _⟩
  clear hrow
  have hb' : (!b) = false := by assumption
  have hsh' : (!sh) = false := by assumption
  have hsum := hbytes (by simpa using hb')
  obtain ⟨e1, e2, hsh⟩ := hshape (by simpa using hsh')
  clear hbytes hshape
  subst e1
  subst e2
  have hL : ∀ r, r < G2 → L0 r ≤ 1048576 := fun r hr => Nat.le_trans (sum_row L0 hr) hsum
  have J0 := I.h0.below (below_drewN' (Below.refl w'.heap.size w') nd) (Nat.le_refl _)
  have J1 := (I.h1.congrL (fun r hr => (hsh r hr).1)).below (below_drewN' (Below.refl w'.heap.size w') nd) (Nat.le_refl _)
  have J2 := (I.h2.congrL (fun r hr => (hsh r hr).2)).below (below_drewN' (Below.refl w'.heap.size w') nd) (Nat.le_refl _)
  have n1 : ∀ r, r < G2 → (A1 r).isSome = false → L0 r = 0 := fun r hr hs => by rw [← (hsh r hr).1]; exact I.n1 r hr hs
  have n2 : ∀ r, r < G2 → (A2 r).isSome = false → L0 r = 0 := fun r hr hs => by rw [← (hsh r hr).2]; exact I.n2 r hr hs
  have HN1 : Hid _ := n1
  have HN2 : Hid _ := n2
  have HSH : Hid _ := hsh
  have HL : Hid _ := hL
  clear n1 n2 hsh hL
  refine (cloneBools2_any _ gb0 go0 G2 gc0 A0 L0 C0 RB0 RO0 ok _ J0 I.n0 (by omega) HL.out).mono ?_
  rintro e wA ⟨a0, c0, rfl, ha0, hO0, hB0, hs0⟩
  have J1 := J1.below hB0 (Nat.le_refl _)
  have J2 := J2.below hB0 (Nat.le_refl _)
  have HS0 : Hid _ := hs0
  have HA0 : Hid _ := ha0
  clear J0 hs0 ha0
  go_wp2_with fail
  refine (cloneU642_any ga1 gb1 go1 G2 gc1 A1 L0 C1 RB1 RO1 hi _ J1 HN1.out (by omega) HL.out).mono ?_
  rintro e wB ⟨a1, c1, rfl, ha1, hO1, hB1, hs1⟩
  have J2 := J2.below hB1 (Nat.le_refl _)
  have hO0 := hO0.below hB1 (fun h => by rw [HS0.out h]; exact Nat.le_refl _)
  have HS1 : Hid _ := hs1
  have HA1 : Hid _ := ha1
  clear J1 hs1 ha1
  go_wp2_with fail
  refine (cloneU642_any ga2 gb2 go2 G2 gc2 A2 L0 C2 RB2 RO2 lo _ J2 HN2.out (by omega) HL.out).mono ?_
  rintro e wC ⟨a2, c2, rfl, ha2, hO2, hB2, hs2⟩
  have hO0 := hO0.below hB2 (fun h => by have := hB1.size; rw [← HS0.out h]; omega)
  have hO1 := hO1.below hB2 (fun h => by rw [HS1.out h]; exact Nat.le_refl _)
  have HS2 : Hid _ := hs2
  have HA2 : Hid _ := ha2
  clear J2 hs2 ha2
  have HL' : ∀ r, r < G2 → L0 r ≤ 9223372036854775807 := fun r hr => by have := HL.out r hr; omega
  have K0 := hO0.grid HA0.out HL'
  have K1 := hO1.grid HA1.out HL'
  have K2 := hO2.grid HA2.out HL'
  have HLL : Hid _ := HL'
  clear HL'
  go_wp2_with fail
  refine (zzcells_any a0 _ _ G2 c0 _ ⟨L0, ok, hi, lo⟩ _ _ _ a1 _ _ c1 _ _ _ _ a2 _ _ c2 _ _ _ _ _ K0 K1 K2 (fun r hr hs => I.n0 r hr (by
    cases e : (A0 r).isSome with
    | false => rfl
    | true => simp [nA, e] at hs)) (by omega) hsum HL.out).mono ?_
  rintro e wZ ⟨N, rfl, hN, hsz, hBz, r0, r1, r2, r3⟩
  have hlen : (Pl.tabTo ⟨L0, ok, hi, lo⟩ G2).length ≤ 1048576 := Nat.le_trans (Pl.tabTo_len _ G2) hsum
  have hset := Pl.set_one ⟨L0, ok, hi, lo⟩ R C yh yl G2 hR hC
  have hne : (Pl.tabTo (Pl.upd ⟨L0, ok, hi, lo⟩ R C yh yl) G2).isEmpty = false := by
    obtain ⟨B1, M, B2, _, e2, _⟩ := Pl.one_slot ⟨L0, ok, hi, lo⟩ R C yh yl G2 hR hC
    rw [e2]; simp
  have hlen' : (Pl.tabTo (Pl.upd ⟨L0, ok, hi, lo⟩ R C yh yl) G2).length ≤ 1048576 := Nat.le_trans (Pl.tabTo_len _ G2) hsum
  have hO0 := hO0.below hBz (fun h => by have := hB1.size; have := hB2.size; rw [← HS0.out h]; omega)
  have hO1 := hO1.below hBz (fun h => by have := hB2.size; rw [← HS1.out h]; omega)
  have hO2 := hO2.below hBz (fun h => by rw [← HS2.out h]; exact Nat.le_refl _)
  have hB : Below w'.heap.size w' wZ := ((((below_drewN' (Below.refl w'.heap.size w') nd).trans hB0).trans (hB1.mono hB0.size)).trans (hB2.mono (Nat.le_trans hB0.size hB1.size))).trans (hBz.mono (Nat.le_trans (Nat.le_trans hB0.size hB1.size) hB2.size))
  have z0 : (w'.drewN nd).heap.size + 1 + cnt A0 G2 ≤ wA.heap.size := by rw [HS0.out (by omega)]; exact Nat.le_refl _
  have z1 : wA.heap.size + 1 + cnt A1 G2 ≤ wB.heap.size := by rw [HS1.out (by omega)]; exact Nat.le_refl _
  have z2 : wB.heap.size + 1 + cnt A2 G2 ≤ wC.heap.size := by rw [HS2.out (by omega)]; exact Nat.le_refl _
  have s0 : (A0 R).isSome = true := by
    cases e : (A0 R).isSome with
    | true => rfl
    | false => have := hO0.nil R hR e; omega
  have s1 : (A1 R).isSome = true := by
    cases e : (A1 R).isSome with
    | true => rfl
    | false => have := hO1.nil R hR e; omega
  have s2 : (A2 R).isSome = true := by
    cases e : (A2 R).isSome with
    | true => rfl
    | false => have := hO2.nil R hR e; omega
  obtain rfl := HA0.out (by omega)
  obtain rfl := HA1.out (by omega)
  obtain rfl := HA2.out (by omega)
  have hn0 := I.n0
  clear J1 J2 K0 K1 K2 HN1 HN2 HSH HA0 HA1 HA2 HS0 HS1 HS2 hb' hsh' I
  have hwN : w'.heap.size ≤ wC.heap.size := Nat.le_trans (Nat.le_trans hB0.size hB1.size) hB2.size
  clear hB0 hB1 hB2 hBz
  generalize hN0 : (w'.drewN nd).heap.size = N0 at *
  generalize hN1 : wA.heap.size = N1 at *
  generalize hN2 : wB.heap.size = N2 at *
  generalize hN3 : wC.heap.size = N3 at *
  have hN0' : w'.heap.size = N0 := hN0
  have HW : Hid (w'.heap.size ≤ N0) := by rw [hN0']; exact Nat.le_refl _
  clear hN0 hN1 hN2 hN3 hN0'
  have hc0 := cnt_lt A0 hR s0
  have hc1 := cnt_lt A1 hR s1
  have hc2 := cnt_lt A2 hR s2
  generalize hB0 : N0 + 1 + cnt A0 R = Q0
  generalize hB1 : N1 + 1 + cnt A1 R = Q1
  generalize hB2 : N2 + 1 + cnt A2 R = Q2
  have t0 : wZ.cell? ⟨N0, R, none⟩ = some (.slice (some ⟨Q0, 0, none⟩) (L0 R) (L0 R)) := by rw [(hO0.top (by omega)).cell hR, ← hB0]; simp [nA, s0]
  have u0 : wZ.cell? ⟨Q0, C, none⟩ = some (.bool (ok R C)) := by rw [← hB0]; exact (hO0.row R hR s0).cell hC
  have f0 : wZ.frozen? ⟨Q0, C, none⟩ = false := by rw [← hB0]; exact (hO0.row R hR s0).frozen C
  have P0 := hO0.set (V' := fun r c => .bool ((Pl.upd ⟨L0, ok, hi, lo⟩ R C yh yl).ok r c)) hR s0 (C := C) (.bool true) (fun r c => by simp only [Pl.upd]; split <;> rfl)
  have P1 := hO1.setOther (a := ⟨N0 + 1 + cnt A0 R, C, none⟩) (.inl (by show N0 + 1 + cnt A0 R < N1; omega)) (.bool true)
  have P2 := hO2.setOther (a := ⟨N0 + 1 + cnt A0 R, C, none⟩) (.inl (by show N0 + 1 + cnt A0 R < N2; omega)) (.bool true)
  rw [hB0] at P0 P1 P2
  have t1 : (wZ.setCell ⟨Q0, C, none⟩ (.bool true)).cell? ⟨N1, R, none⟩ = some (.slice (some ⟨Q1, 0, none⟩) (L0 R) (L0 R)) := by rw [(P1.top (by omega)).cell hR, ← hB1]; simp [nA, s1]
  have u1 : (wZ.setCell ⟨Q0, C, none⟩ (.bool true)).cell? ⟨Q1, C, none⟩ = some (.int .u64 (hi R C)) := by rw [← hB1]; exact (P1.row R hR s1).cell hC
  have f1 : (wZ.setCell ⟨Q0, C, none⟩ (.bool true)).frozen? ⟨Q1, C, none⟩ = false := by rw [← hB1]; exact (P1.row R hR s1).frozen C
  have P0 := P0.setOther (a := ⟨N1 + 1 + cnt A1 R, C, none⟩) (.inr (by show N0 + 1 + cnt A0 G2 ≤ N1 + 1 + cnt A1 R; omega)) (.int .u64 yh)
  have P1 := P1.set (V' := fun r c => .int .u64 ((Pl.upd ⟨L0, ok, hi, lo⟩ R C yh yl).hi r c)) hR s1 (C := C) (.int .u64 yh) (fun r c => by simp only [Pl.upd]; split <;> rfl)
  have P2 := P2.setOther (a := ⟨N1 + 1 + cnt A1 R, C, none⟩) (.inl (by show N1 + 1 + cnt A1 R < N2; omega)) (.int .u64 yh)
  rw [hB1] at P0 P1 P2
  have t2 : ((wZ.setCell ⟨Q0, C, none⟩ (.bool true)).setCell ⟨Q1, C, none⟩ (.int .u64 yh)).cell? ⟨N2, R, none⟩ = some (.slice (some ⟨Q2, 0, none⟩) (L0 R) (L0 R)) := by rw [(P2.top (by omega)).cell hR, ← hB2]; simp [nA, s2]
  have u2 : ((wZ.setCell ⟨Q0, C, none⟩ (.bool true)).setCell ⟨Q1, C, none⟩ (.int .u64 yh)).cell? ⟨Q2, C, none⟩ = some (.int .u64 (lo R C)) := by rw [← hB2]; exact (P2.row R hR s2).cell hC
  have f2 : ((wZ.setCell ⟨Q0, C, none⟩ (.bool true)).setCell ⟨Q1, C, none⟩ (.int .u64 yh)).frozen? ⟨Q2, C, none⟩ = false := by rw [← hB2]; exact (P2.row R hR s2).frozen C
  have P0 := P0.setOther (a := ⟨N2 + 1 + cnt A2 R, C, none⟩) (.inr (by show N0 + 1 + cnt A0 G2 ≤ N2 + 1 + cnt A2 R; omega)) (.int .u64 yl)
  have P1 := P1.setOther (a := ⟨N2 + 1 + cnt A2 R, C, none⟩) (.inr (by show N1 + 1 + cnt A1 G2 ≤ N2 + 1 + cnt A2 R; omega)) (.int .u64 yl)
  have P2 := P2.set (V' := fun r c => .int .u64 ((Pl.upd ⟨L0, ok, hi, lo⟩ R C yh yl).lo r c)) hR s2 (C := C) (.int .u64 yl) (fun r c => by simp only [Pl.upd]; split <;> rfl)
  rw [hB2] at P0 P1 P2
  have hq0 : Q0 < N := by omega
  have hq1 : Q1 < N := by omega
  have hq2 : Q2 < N := by omega
  have hq3 : N0 ≤ Q0 := by omega
  have hq4 : N0 ≤ Q1 := by omega
  have hq5 : N0 ≤ Q2 := by omega
  have ro : ∀ (i : Nat) (e : TypeId) (m : Nat) (f : Nat → Value), wZ.rowIs (N + i) e m f → (((wZ.setCell ⟨Q0, C, none⟩ (.bool true)).setCell ⟨Q1, C, none⟩ (.int .u64 yh)).setCell ⟨Q2, C, none⟩ (.int .u64 yl)).rowIs (N + i) e m f := fun i e m f h =>
    ((h.setOther (a := ⟨Q0, C, none⟩) (by show N + i ≠ Q0; omega) _).setOther (a := ⟨Q1, C, none⟩) (by show N + i ≠ Q1; omega) _).setOther (a := ⟨Q2, C, none⟩) (by show N + i ≠ Q2; omega) _
  have r0 := ro 0 _ _ _ r0
  have r1 := ro 1 _ _ _ r1
  have r2 := ro 2 _ _ _ r2
  have r3 := ro 3 _ _ _ r3
  have hB := ((hB.setCell (p := ⟨Q0, C, none⟩) (Nat.le_trans HW.out hq3) (.bool true)).setCell (p := ⟨Q1, C, none⟩) (Nat.le_trans HW.out hq4) (.int .u64 yh)).setCell (p := ⟨Q2, C, none⟩) (Nat.le_trans HW.out hq5) (.int .u64 yl)
  have hsS : (((wZ.setCell ⟨Q0, C, none⟩ (.bool true)).setCell ⟨Q1, C, none⟩ (.int .u64 yh)).setCell ⟨Q2, C, none⟩ (.int .u64 yl)).heap.size = N + 4 := by simpa using hsz
  have HSS : Hid _ := hsS
  clear hsS hsz ro hO0 hO1 hO2
  have K0 := P0.grid (ga := some ⟨N0, 0, none⟩) (fun _ => rfl) HLL.out
  have K1 := P1.grid (ga := some ⟨N1, 0, none⟩) (fun _ => rfl) HLL.out
  have K2 := P2.grid (ga := some ⟨N2, 0, none⟩) (fun _ => rfl) HLL.out
  have HP0 : Hid _ := hset
  have HNE : Hid _ := hne
  have HN0 : Hid _ := hn0
  clear P0 P1 P2 hB0 hB1 hB2 s0 s1 s2 z0 z1 z2 hc0 hc1 hc2 hset hne hn0
  go_wp2_with fail
  refine (zzcells_any _ _ _ G2 c0 _ (Pl.upd ⟨L0, ok, hi, lo⟩ R C yh yl) _ _ _ _ _ _ c1 _ _ _ _ _ _ _ c2 _ _ _ _ _ K0 K1 K2 (fun r hr hs => HN0.out r hr (by
    cases e : (A0 r).isSome with
    | false => rfl
    | true => simp [nA, e] at hs)) (by omega) hsum HL.out).mono ?_
  rintro e wY ⟨N', rfl, hN', hsz', hBy, q0, q1, q2, q3⟩
  clear K0 K1 K2 t0 t1 t2 u0 u1 u2 f0 f1 f2
  generalize hWS : (((wZ.setCell ⟨Q0, C, none⟩ (.bool true)).setCell ⟨Q1, C, none⟩ (.int .u64 yh)).setCell ⟨Q2, C, none⟩ (.int .u64 yl)) = wS at *
  have hB : Below w'.heap.size w' wY := hB.trans (hBy.mono hB.size)
  have hNb : N + 4 ≤ wY.heap.size := by rw [← HSS.out]; exact hBy.size
  have r0 := r0.of_block (hBy.block _ (by rw [HSS.out]; omega))
  have r1 := r1.of_block (hBy.block _ (by rw [HSS.out]; omega))
  have r2 := r2.of_block (hBy.block _ (by rw [HSS.out]; omega))
  have r3 := r3.of_block (hBy.block _ (by rw [HSS.out]; omega))
  have hN'b : N' + 4 ≤ wY.heap.size := by rw [hsz']; exact Nat.le_refl _
  clear hWS hsz' hBy hN' HSS hq0 hq1 hq2 hq3 hq4 hq5
  rw [HNE.out]
  have hset := HP0.out
  generalize Pl.tabTo (Pl.upd ⟨L0, ok, hi, lo⟩ R C yh yl) G2 = S' at hset hlen' q0 q1 q2 q3 ⊢
  generalize Pl.tabTo ⟨L0, ok, hi, lo⟩ G2 = S at hset hlen r0 r1 r2 r3 ⊢
  have HSET : Hid _ := hset
  have HB : Hid _ := hB
  have HR : Hid (∀ k, k < S.length → ∀ W, Below wY.heap.size wY W → W.cell? ⟨N, k, none⟩ = some (.int .i64 (fr S k)) ∧ W.cell? ⟨N + 1, k, none⟩ = some (.int .i64 (fc S k)) ∧ W.cell? ⟨N + 2, k, none⟩ = some (.int .u64 (fh S k)) ∧ W.cell? ⟨N + 3, k, none⟩ = some (.int .u64 (fl S k))) := by
    intro k hk W hW
    refine ⟨?_, ?_, ?_, ?_⟩
    · rw [hW.cell (p := ⟨N, k, none⟩) (by show N < _; omega)]; exact r0.cell hk
    · rw [hW.cell (p := ⟨N + 1, k, none⟩) (by show N + 1 < _; omega)]; exact r1.cell hk
    · rw [hW.cell (p := ⟨N + 2, k, none⟩) (by show N + 2 < _; omega)]; exact r2.cell hk
    · rw [hW.cell (p := ⟨N + 3, k, none⟩) (by show N + 3 < _; omega)]; exact r3.cell hk
  clear hset hB r0 r1 r2 r3 HP0 HNE HN0
  generalize hbase : wY.heap.size = base at *
  have HBS : Hid (wY.heap.size = base) := hbase
  clear hbase
  go_wp2_with fail
  go_loopg [25, 26, 27, 28, 29, 30] S.length (fun g v0 v1 v2 v3 pl i wr => ∃ k : Nat, k ≤ S.length ∧ g = S.length - k ∧ i = .int .i64 k ∧ pl = .bool (Pl.accTo ⟨R, C, yh, yl⟩ S k).2 ∧
    OwnF base wr v0 v1 v2 v3 (xr (Pl.accTo ⟨R, C, yh, yl⟩ S k).1) (xc (Pl.accTo ⟨R, C, yh, yl⟩ S k).1) (xh (Pl.accTo ⟨R, C, yh, yl⟩ S k).1) (xl (Pl.accTo ⟨R, C, yh, yl⟩ S k).1) ∧ Below base wY wr)
  case atStart => exact ⟨0, Nat.zero_le _, rfl, rfl, rfl, ownF_nil _ _, Below.refl _ _⟩
  case round =>
    obtain ⟨k, hk, rfl, rfl, rfl, O, hbr⟩ := hrel
    have hacc := (Pl.acc_len ⟨R, C, yh, yl⟩ S k hk).1
    by_cases hkl : k < S.length
    · have hst1 := Pl.accTo_succ ⟨R, C, yh, yl⟩ S k hkl
      have hx : S[k] = ⟨fr S k, fc S k, fh S k, fl S k⟩ := by rw [fr_get hkl, fc_get hkl, fh_get hkl, fl_get hkl]
      rw [hx] at hst1
      have HRK : Hid _ := HR.out k hkl
      generalize fr S k = rr at hst1 HRK
      generalize fc S k = cc at hst1 HRK
      generalize fh S k = hh at hst1 HRK
      generalize fl S k = ll at hst1 HRK
      generalize Pl.accTo ⟨R, C, yh, yl⟩ S k = st at O hacc hst1 ⊢
      obtain ⟨acc, p⟩ := st
      have HST1 : Hid _ := hst1
      clear hst1 hx
      have O0 := O
      have hB0 := hbr
      have hs0 : base ≤ wr.heap.size := below_size hB0 HBS.out
      have hkz : (k : Int) < (S.length : Int) := by omega
      obtain ⟨d0, d1, d2, d3⟩ := HRK.out _ hB0
      have hl0 : (xr acc).length ≤ 2000000 := by simp [xr]; simp at hacc; omega
      have hl1 : (xc acc).length ≤ 2000000 := by simp [xc]; simp at hacc; omega
      have hl2 : (xh acc).length ≤ 2000000 := by simp [xh]; simp at hacc; omega
      have hl3 : (xl acc).length ≤ 2000000 := by simp [xl]; simp at hacc; omega
      have hm0 : (xr acc ++ [Value.int .i64 R]).length ≤ 2000000 := by simp [xr]; simp at hacc; omega
      have hm1 : (xc acc ++ [Value.int .i64 C]).length ≤ 2000000 := by simp [xc]; simp at hacc; omega
      have hm2 : (xh acc ++ [Value.int .u64 yh]).length ≤ 2000000 := by simp [xh]; simp at hacc; omega
      have hm3 : (xl acc ++ [Value.int .u64 yl]).length ≤ 2000000 := by simp [xl]; simp at hacc; omega
      cases p with
      | true =>
        by_cases her : rr = R
        · by_cases hec : cc = C
          · have e1 : ((rr : Int) == (R : Int)) = true := by simp; omega
            have e2 : ((cc : Int) == (C : Int)) = true := by simp; omega
            have hE : Pl.accTo ⟨R, C, yh, yl⟩ S (k + 1) = (acc, true) := by rw [HST1.out]; simp [Pl.step, Pl.geB, Pl.sameB, her, hec]
            have HE : Hid _ := hE
            clear hE
            clear her hec
            go_wp2_with fail
            go_roundg (S.length - (k + 1))
            case measure => go_light; omega
            case rel =>
              go_light
              refine ⟨k + 1, by omega, rfl, by go_num, by rw [HE.out], ?_, hB0⟩
              rw [HE.out]
              simpa [xr, xc, xh, xl] using O0
          · have hnc : ¬ cc = C := hec
            have e1 : ((rr : Int) == (R : Int)) = true := by simp; omega
            have e2 : ((cc : Int) == (C : Int)) = false := by simp; omega
            have hE : Pl.accTo ⟨R, C, yh, yl⟩ S (k + 1) = (acc ++ [⟨rr, cc, hh, ll⟩], true) := by rw [HST1.out]; simp [Pl.step, Pl.geB, Pl.sameB, hnc]
            have HE : Hid _ := hE
            clear hE
            clear her
            go_wp2_with (first
              | (at_builtin; refine wpList_push0 _ rfl (.tmp 212) (.tmp 217) rfl base 3 (.int .i64 rr) rfl O0 rfl rfl hl0 hs0 ?_; intro v1 w1 O1 hb1; have hB1 := hB0.trans hb1; obtain ⟨d0, d1, d2, d3⟩ := HRK.out _ hB1; have hs1 : base ≤ w1.heap.size := below_size hB1 HBS.out)
              | (at_builtin; refine wpList_push1 _ rfl (.tmp 219) (.tmp 224) rfl base 3 (.int .i64 cc) rfl O1 rfl rfl hl1 hs1 ?_; intro v2 w2 O2 hb2; have hB2 := hB1.trans hb2; obtain ⟨d0, d1, d2, d3⟩ := HRK.out _ hB2; have hs2 : base ≤ w2.heap.size := below_size hB2 HBS.out)
              | (at_builtin; refine wpList_push2 _ rfl (.tmp 226) (.tmp 231) rfl base 22 (.int .u64 hh) rfl O2 rfl rfl hl2 hs2 ?_; intro v3 w3 O3 hb3; have hB3 := hB2.trans hb3; obtain ⟨d0, d1, d2, d3⟩ := HRK.out _ hB3; have hs3 : base ≤ w3.heap.size := below_size hB3 HBS.out)
              | (at_builtin; refine wpList_push3 _ rfl (.tmp 233) (.tmp 238) rfl base 22 (.int .u64 ll) rfl O3 rfl rfl hl3 hs3 ?_; intro v4 w4 O4 hb4; have hB4 := hB3.trans hb4; obtain ⟨d0, d1, d2, d3⟩ := HRK.out _ hB4; have hs4 : base ≤ w4.heap.size := below_size hB4 HBS.out))
            go_roundg (S.length - (k + 1))
            case measure => go_light; omega
            case rel =>
              go_light
              refine ⟨k + 1, by omega, rfl, by go_num, by rw [HE.out], ?_, hB4⟩
              rw [HE.out]
              simpa [xr, xc, xh, xl] using O4
        · have hne : ¬ rr = R := her
          have e1 : ((rr : Int) == (R : Int)) = false := by simp; omega
          have hE : Pl.accTo ⟨R, C, yh, yl⟩ S (k + 1) = (acc ++ [⟨rr, cc, hh, ll⟩], true) := by rw [HST1.out]; simp [Pl.step, Pl.geB, Pl.sameB, hne]
          have HE : Hid _ := hE
          clear hE
          go_wp2_with (first
            | (at_builtin; refine wpList_push0 _ rfl (.tmp 212) (.tmp 217) rfl base 3 (.int .i64 rr) rfl O0 rfl rfl hl0 hs0 ?_; intro v1 w1 O1 hb1; have hB1 := hB0.trans hb1; obtain ⟨d0, d1, d2, d3⟩ := HRK.out _ hB1; have hs1 : base ≤ w1.heap.size := below_size hB1 HBS.out)
            | (at_builtin; refine wpList_push1 _ rfl (.tmp 219) (.tmp 224) rfl base 3 (.int .i64 cc) rfl O1 rfl rfl hl1 hs1 ?_; intro v2 w2 O2 hb2; have hB2 := hB1.trans hb2; obtain ⟨d0, d1, d2, d3⟩ := HRK.out _ hB2; have hs2 : base ≤ w2.heap.size := below_size hB2 HBS.out)
            | (at_builtin; refine wpList_push2 _ rfl (.tmp 226) (.tmp 231) rfl base 22 (.int .u64 hh) rfl O2 rfl rfl hl2 hs2 ?_; intro v3 w3 O3 hb3; have hB3 := hB2.trans hb3; obtain ⟨d0, d1, d2, d3⟩ := HRK.out _ hB3; have hs3 : base ≤ w3.heap.size := below_size hB3 HBS.out)
            | (at_builtin; refine wpList_push3 _ rfl (.tmp 233) (.tmp 238) rfl base 22 (.int .u64 ll) rfl O3 rfl rfl hl3 hs3 ?_; intro v4 w4 O4 hb4; have hB4 := hB3.trans hb4; obtain ⟨d0, d1, d2, d3⟩ := HRK.out _ hB4; have hs4 : base ≤ w4.heap.size := below_size hB4 HBS.out))
          go_roundg (S.length - (k + 1))
          case measure => go_light; omega
          case rel =>
            go_light
            refine ⟨k + 1, by omega, rfl, by go_num, by rw [HE.out], ?_, hB4⟩
            rw [HE.out]
            simpa [xr, xc, xh, xl] using O4
      | false =>
        by_cases hA : rr < R
        · have e0 : ¬ (R : Int) < (rr : Int) := by omega
          have e1 : ((rr : Int) == (R : Int)) = false := by simp; omega
          have hE : Pl.accTo ⟨R, C, yh, yl⟩ S (k + 1) = (acc ++ [⟨rr, cc, hh, ll⟩], false) := by rw [HST1.out]; simp [Pl.step, Pl.geB, Pl.sameB, show ¬ R < rr by omega, show ¬ rr = R by omega]
          have HE : Hid _ := hE
          clear hE
          go_wp2_with (first
            | (at_builtin; refine wpList_push0 _ rfl (.tmp 212) (.tmp 217) rfl base 3 (.int .i64 rr) rfl O0 rfl rfl hl0 hs0 ?_; intro v1 w1 O1 hb1; have hB1 := hB0.trans hb1; obtain ⟨d0, d1, d2, d3⟩ := HRK.out _ hB1; have hs1 : base ≤ w1.heap.size := below_size hB1 HBS.out)
            | (at_builtin; refine wpList_push1 _ rfl (.tmp 219) (.tmp 224) rfl base 3 (.int .i64 cc) rfl O1 rfl rfl hl1 hs1 ?_; intro v2 w2 O2 hb2; have hB2 := hB1.trans hb2; obtain ⟨d0, d1, d2, d3⟩ := HRK.out _ hB2; have hs2 : base ≤ w2.heap.size := below_size hB2 HBS.out)
            | (at_builtin; refine wpList_push2 _ rfl (.tmp 226) (.tmp 231) rfl base 22 (.int .u64 hh) rfl O2 rfl rfl hl2 hs2 ?_; intro v3 w3 O3 hb3; have hB3 := hB2.trans hb3; obtain ⟨d0, d1, d2, d3⟩ := HRK.out _ hB3; have hs3 : base ≤ w3.heap.size := below_size hB3 HBS.out)
            | (at_builtin; refine wpList_push3 _ rfl (.tmp 233) (.tmp 238) rfl base 22 (.int .u64 ll) rfl O3 rfl rfl hl3 hs3 ?_; intro v4 w4 O4 hb4; have hB4 := hB3.trans hb4; obtain ⟨d0, d1, d2, d3⟩ := HRK.out _ hB4; have hs4 : base ≤ w4.heap.size := below_size hB4 HBS.out))
          go_roundg (S.length - (k + 1))
          case measure => go_light; omega
          case rel =>
            go_light
            refine ⟨k + 1, by omega, rfl, by go_num, by rw [HE.out], ?_, hB4⟩
            rw [HE.out]
            simpa [xr, xc, xh, xl] using O4
        by_cases hEE : R < rr
        · have e0 : (R : Int) < (rr : Int) := by omega
          have e1 : ((rr : Int) == (R : Int)) = false := by simp; omega
          have hE : Pl.accTo ⟨R, C, yh, yl⟩ S (k + 1) = (acc ++ [⟨R, C, yh, yl⟩] ++ [⟨rr, cc, hh, ll⟩], true) := by rw [HST1.out]; simp [Pl.step, Pl.geB, Pl.sameB, show R < rr by omega, show ¬ rr = R by omega]
          have HE : Hid _ := hE
          clear hE
          go_wp2_with (first
            | (at_builtin; refine wpList_push0 _ rfl (.tmp 182) (.tmp 184) rfl base 3 (.int .i64 R) rfl O0 rfl rfl hl0 hs0 ?_; intro v1 w1 O1 hb1; have hB1 := hB0.trans hb1; obtain ⟨d0, d1, d2, d3⟩ := HRK.out _ hB1; have hs1 : base ≤ w1.heap.size := below_size hB1 HBS.out)
            | (at_builtin; refine wpList_push1 _ rfl (.tmp 186) (.tmp 188) rfl base 3 (.int .i64 C) rfl O1 rfl rfl hl1 hs1 ?_; intro v2 w2 O2 hb2; have hB2 := hB1.trans hb2; obtain ⟨d0, d1, d2, d3⟩ := HRK.out _ hB2; have hs2 : base ≤ w2.heap.size := below_size hB2 HBS.out)
            | (at_builtin; refine wpList_push2 _ rfl (.tmp 190) (.tmp 192) rfl base 22 (.int .u64 yh) rfl O2 rfl rfl hl2 hs2 ?_; intro v3 w3 O3 hb3; have hB3 := hB2.trans hb3; obtain ⟨d0, d1, d2, d3⟩ := HRK.out _ hB3; have hs3 : base ≤ w3.heap.size := below_size hB3 HBS.out)
            | (at_builtin; refine wpList_push3 _ rfl (.tmp 194) (.tmp 196) rfl base 22 (.int .u64 yl) rfl O3 rfl rfl hl3 hs3 ?_; intro v4 w4 O4 hb4; have hB4 := hB3.trans hb4; obtain ⟨d0, d1, d2, d3⟩ := HRK.out _ hB4; have hs4 : base ≤ w4.heap.size := below_size hB4 HBS.out)
            | (at_builtin; refine wpList_push0 _ rfl (.tmp 212) (.tmp 217) rfl base 3 (.int .i64 rr) rfl O4 rfl rfl hm0 hs4 ?_; intro v5 w5 O5 hb5; have hB5 := hB4.trans hb5; obtain ⟨d0, d1, d2, d3⟩ := HRK.out _ hB5; have hs5 : base ≤ w5.heap.size := below_size hB5 HBS.out)
            | (at_builtin; refine wpList_push1 _ rfl (.tmp 219) (.tmp 224) rfl base 3 (.int .i64 cc) rfl O5 rfl rfl hm1 hs5 ?_; intro v6 w6 O6 hb6; have hB6 := hB5.trans hb6; obtain ⟨d0, d1, d2, d3⟩ := HRK.out _ hB6; have hs6 : base ≤ w6.heap.size := below_size hB6 HBS.out)
            | (at_builtin; refine wpList_push2 _ rfl (.tmp 226) (.tmp 231) rfl base 22 (.int .u64 hh) rfl O6 rfl rfl hm2 hs6 ?_; intro v7 w7 O7 hb7; have hB7 := hB6.trans hb7; obtain ⟨d0, d1, d2, d3⟩ := HRK.out _ hB7; have hs7 : base ≤ w7.heap.size := below_size hB7 HBS.out)
            | (at_builtin; refine wpList_push3 _ rfl (.tmp 233) (.tmp 238) rfl base 22 (.int .u64 ll) rfl O7 rfl rfl hm3 hs7 ?_; intro v8 w8 O8 hb8; have hB8 := hB7.trans hb8; obtain ⟨d0, d1, d2, d3⟩ := HRK.out _ hB8; have hs8 : base ≤ w8.heap.size := below_size hB8 HBS.out))
          go_roundg (S.length - (k + 1))
          case measure => go_light; omega
          case rel =>
            go_light
            refine ⟨k + 1, by omega, rfl, by go_num, by rw [HE.out], ?_, hB8⟩
            rw [HE.out]
            simpa [xr, xc, xh, xl] using O8
        have her : rr = R := by omega
        by_cases hBB : cc < C
        · have e0 : ¬ (R : Int) < (rr : Int) := by omega
          have e1 : ((rr : Int) == (R : Int)) = true := by simp; omega
          have e2 : ¬ (C : Int) ≤ (cc : Int) := by omega
          have e3 : ((cc : Int) == (C : Int)) = false := by simp; omega
          have hE : Pl.accTo ⟨R, C, yh, yl⟩ S (k + 1) = (acc ++ [⟨rr, cc, hh, ll⟩], false) := by rw [HST1.out]; simp [Pl.step, Pl.geB, Pl.sameB, her, show ¬ C ≤ cc by omega, show ¬ cc = C by omega]
          have HE : Hid _ := hE
          clear hE
          clear her
          go_wp2_with (first
            | (at_builtin; refine wpList_push0 _ rfl (.tmp 212) (.tmp 217) rfl base 3 (.int .i64 rr) rfl O0 rfl rfl hl0 hs0 ?_; intro v1 w1 O1 hb1; have hB1 := hB0.trans hb1; obtain ⟨d0, d1, d2, d3⟩ := HRK.out _ hB1; have hs1 : base ≤ w1.heap.size := below_size hB1 HBS.out)
            | (at_builtin; refine wpList_push1 _ rfl (.tmp 219) (.tmp 224) rfl base 3 (.int .i64 cc) rfl O1 rfl rfl hl1 hs1 ?_; intro v2 w2 O2 hb2; have hB2 := hB1.trans hb2; obtain ⟨d0, d1, d2, d3⟩ := HRK.out _ hB2; have hs2 : base ≤ w2.heap.size := below_size hB2 HBS.out)
            | (at_builtin; refine wpList_push2 _ rfl (.tmp 226) (.tmp 231) rfl base 22 (.int .u64 hh) rfl O2 rfl rfl hl2 hs2 ?_; intro v3 w3 O3 hb3; have hB3 := hB2.trans hb3; obtain ⟨d0, d1, d2, d3⟩ := HRK.out _ hB3; have hs3 : base ≤ w3.heap.size := below_size hB3 HBS.out)
            | (at_builtin; refine wpList_push3 _ rfl (.tmp 233) (.tmp 238) rfl base 22 (.int .u64 ll) rfl O3 rfl rfl hl3 hs3 ?_; intro v4 w4 O4 hb4; have hB4 := hB3.trans hb4; obtain ⟨d0, d1, d2, d3⟩ := HRK.out _ hB4; have hs4 : base ≤ w4.heap.size := below_size hB4 HBS.out))
          go_roundg (S.length - (k + 1))
          case measure => go_light; omega
          case rel =>
            go_light
            refine ⟨k + 1, by omega, rfl, by go_num, by rw [HE.out], ?_, hB4⟩
            rw [HE.out]
            simpa [xr, xc, xh, xl] using O4
        by_cases hDD : C < cc
        · have e0 : ¬ (R : Int) < (rr : Int) := by omega
          have e1 : ((rr : Int) == (R : Int)) = true := by simp; omega
          have e2 : (C : Int) ≤ (cc : Int) := by omega
          have e3 : ((cc : Int) == (C : Int)) = false := by simp; omega
          have hE : Pl.accTo ⟨R, C, yh, yl⟩ S (k + 1) = (acc ++ [⟨R, C, yh, yl⟩] ++ [⟨rr, cc, hh, ll⟩], true) := by rw [HST1.out]; simp [Pl.step, Pl.geB, Pl.sameB, her, show C ≤ cc by omega, show ¬ cc = C by omega]
          have HE : Hid _ := hE
          clear hE
          clear her
          go_wp2_with (first
            | (at_builtin; refine wpList_push0 _ rfl (.tmp 182) (.tmp 184) rfl base 3 (.int .i64 R) rfl O0 rfl rfl hl0 hs0 ?_; intro v1 w1 O1 hb1; have hB1 := hB0.trans hb1; obtain ⟨d0, d1, d2, d3⟩ := HRK.out _ hB1; have hs1 : base ≤ w1.heap.size := below_size hB1 HBS.out)
            | (at_builtin; refine wpList_push1 _ rfl (.tmp 186) (.tmp 188) rfl base 3 (.int .i64 C) rfl O1 rfl rfl hl1 hs1 ?_; intro v2 w2 O2 hb2; have hB2 := hB1.trans hb2; obtain ⟨d0, d1, d2, d3⟩ := HRK.out _ hB2; have hs2 : base ≤ w2.heap.size := below_size hB2 HBS.out)
            | (at_builtin; refine wpList_push2 _ rfl (.tmp 190) (.tmp 192) rfl base 22 (.int .u64 yh) rfl O2 rfl rfl hl2 hs2 ?_; intro v3 w3 O3 hb3; have hB3 := hB2.trans hb3; obtain ⟨d0, d1, d2, d3⟩ := HRK.out _ hB3; have hs3 : base ≤ w3.heap.size := below_size hB3 HBS.out)
            | (at_builtin; refine wpList_push3 _ rfl (.tmp 194) (.tmp 196) rfl base 22 (.int .u64 yl) rfl O3 rfl rfl hl3 hs3 ?_; intro v4 w4 O4 hb4; have hB4 := hB3.trans hb4; obtain ⟨d0, d1, d2, d3⟩ := HRK.out _ hB4; have hs4 : base ≤ w4.heap.size := below_size hB4 HBS.out)
            | (at_builtin; refine wpList_push0 _ rfl (.tmp 212) (.tmp 217) rfl base 3 (.int .i64 rr) rfl O4 rfl rfl hm0 hs4 ?_; intro v5 w5 O5 hb5; have hB5 := hB4.trans hb5; obtain ⟨d0, d1, d2, d3⟩ := HRK.out _ hB5; have hs5 : base ≤ w5.heap.size := below_size hB5 HBS.out)
            | (at_builtin; refine wpList_push1 _ rfl (.tmp 219) (.tmp 224) rfl base 3 (.int .i64 cc) rfl O5 rfl rfl hm1 hs5 ?_; intro v6 w6 O6 hb6; have hB6 := hB5.trans hb6; obtain ⟨d0, d1, d2, d3⟩ := HRK.out _ hB6; have hs6 : base ≤ w6.heap.size := below_size hB6 HBS.out)
            | (at_builtin; refine wpList_push2 _ rfl (.tmp 226) (.tmp 231) rfl base 22 (.int .u64 hh) rfl O6 rfl rfl hm2 hs6 ?_; intro v7 w7 O7 hb7; have hB7 := hB6.trans hb7; obtain ⟨d0, d1, d2, d3⟩ := HRK.out _ hB7; have hs7 : base ≤ w7.heap.size := below_size hB7 HBS.out)
            | (at_builtin; refine wpList_push3 _ rfl (.tmp 233) (.tmp 238) rfl base 22 (.int .u64 ll) rfl O7 rfl rfl hm3 hs7 ?_; intro v8 w8 O8 hb8; have hB8 := hB7.trans hb8; obtain ⟨d0, d1, d2, d3⟩ := HRK.out _ hB8; have hs8 : base ≤ w8.heap.size := below_size hB8 HBS.out))
          go_roundg (S.length - (k + 1))
          case measure => go_light; omega
          case rel =>
            go_light
            refine ⟨k + 1, by omega, rfl, by go_num, by rw [HE.out], ?_, hB8⟩
            rw [HE.out]
            simpa [xr, xc, xh, xl] using O8
        have hec : cc = C := by omega
        have e0 : ¬ (R : Int) < (rr : Int) := by omega
        have e1 : ((rr : Int) == (R : Int)) = true := by simp; omega
        have e2 : (C : Int) ≤ (cc : Int) := by omega
        have e3 : ((cc : Int) == (C : Int)) = true := by simp; omega
        have hE : Pl.accTo ⟨R, C, yh, yl⟩ S (k + 1) = (acc ++ [⟨R, C, yh, yl⟩], true) := by rw [HST1.out]; simp [Pl.step, Pl.geB, Pl.sameB, her, hec]
        have HE : Hid _ := hE
        clear hE
        clear her hec
        go_wp2_with (first
          | (at_builtin; refine wpList_push0 _ rfl (.tmp 182) (.tmp 184) rfl base 3 (.int .i64 R) rfl O0 rfl rfl hl0 hs0 ?_; intro v1 w1 O1 hb1; have hB1 := hB0.trans hb1; obtain ⟨d0, d1, d2, d3⟩ := HRK.out _ hB1; have hs1 : base ≤ w1.heap.size := below_size hB1 HBS.out)
          | (at_builtin; refine wpList_push1 _ rfl (.tmp 186) (.tmp 188) rfl base 3 (.int .i64 C) rfl O1 rfl rfl hl1 hs1 ?_; intro v2 w2 O2 hb2; have hB2 := hB1.trans hb2; obtain ⟨d0, d1, d2, d3⟩ := HRK.out _ hB2; have hs2 : base ≤ w2.heap.size := below_size hB2 HBS.out)
          | (at_builtin; refine wpList_push2 _ rfl (.tmp 190) (.tmp 192) rfl base 22 (.int .u64 yh) rfl O2 rfl rfl hl2 hs2 ?_; intro v3 w3 O3 hb3; have hB3 := hB2.trans hb3; obtain ⟨d0, d1, d2, d3⟩ := HRK.out _ hB3; have hs3 : base ≤ w3.heap.size := below_size hB3 HBS.out)
          | (at_builtin; refine wpList_push3 _ rfl (.tmp 194) (.tmp 196) rfl base 22 (.int .u64 yl) rfl O3 rfl rfl hl3 hs3 ?_; intro v4 w4 O4 hb4; have hB4 := hB3.trans hb4; obtain ⟨d0, d1, d2, d3⟩ := HRK.out _ hB4; have hs4 : base ≤ w4.heap.size := below_size hB4 HBS.out))
        go_roundg (S.length - (k + 1))
        case measure => go_light; omega
        case rel =>
          go_light
          refine ⟨k + 1, by omega, rfl, by go_num, by rw [HE.out], ?_, hB4⟩
          rw [HE.out]
          simpa [xr, xc, xh, xl] using O4
    · have hkz : ¬ (k : Int) < (S.length : Int) := by omega
      obtain rfl : k = S.length := by omega
      have hset := HSET.out
      generalize Pl.accTo ⟨R, C, yh, yl⟩ S S.length = st at O hacc hset ⊢
      obtain ⟨acc, p⟩ := st
      have O0 := O
      have hB0 := hbr
      have hs0 : base ≤ wr.heap.size := below_size hB0 HBS.out
      have hl0 : (xr acc).length ≤ 2000000 := by simp [xr]; simp at hacc; omega
      have hl1 : (xc acc).length ≤ 2000000 := by simp [xc]; simp at hacc; omega
      have hl2 : (xh acc).length ≤ 2000000 := by simp [xh]; simp at hacc; omega
      have hl3 : (xl acc).length ≤ 2000000 := by simp [xl]; simp at hacc; omega
      have fin : ∀ (W : World) (v0 v1 v2 v3 : Value), OwnF base W v0 v1 v2 v3 (xr S') (xc S') (xh S') (xl S') → Below base wY W → EndF W N' S' v0 v1 v2 v3 := fun W v0 v1 v2 v3 hO hW => endF_of hO hW hN'b q0 q1 q2 q3 HBS.out
      have FIN : Hid _ := fin
      clear fin
      cases p with
      | true =>
        have hS' : S' = acc := by rw [← hset]; simp [Pl.fin]
        subst hS'
        clear hset HSET
        obtain ⟨⟨a4, b4, c4, e4, k4⟩, ⟨a5, b5, c5, e5, k5⟩, ⟨a6, b6, c6, e6, k6⟩, ⟨a7, b7, c7, e7, k7⟩, j0, j1, j2, j3⟩ := FIN.out wr _ _ _ _ O hbr
        subst e4
        subst e5
        subst e6
        subst e7
        try go_wp2_with fail
        refine (eqInt_any _ _ _ _ _ _ _ _ _ _ j0 k4 (fun _ _ => rfl) (by omega)).mono ?_
        rintro e wE ⟨rfl, n1, rfl⟩
        go_wp2_with fail
        refine (eqInt_any _ _ _ _ _ _ _ _ _ _ (by exact j1.drewN _) (by exact k5.drewN _) (fun _ _ => rfl) (by omega)).mono ?_
        rintro e wE ⟨rfl, n2, rfl⟩
        go_wp2_with fail
        refine (eqU64_any _ _ _ _ _ _ _ _ _ _ (by exact j2.drewN _) (by exact k6.drewN _) (fun _ _ => rfl) (by omega)).mono ?_
        rintro e wE ⟨rfl, n3, rfl⟩
        go_wp2_with fail
        refine (eqU64_any _ _ _ _ _ _ _ _ _ _ (by exact j3.drewN _) (by exact k7.drewN _) (fun _ _ => rfl) (by omega)).mono ?_
        rintro e wE ⟨rfl, n4, rfl⟩
        go_wp2_with fail
        go_ret
        exact ⟨rfl, below_drewN' (HB.out.trans (hbr.mono (Nat.le_trans HB.out.size (Nat.le_of_eq HBS.out)))) _⟩
      | false =>
        have hS' : S' = acc ++ [⟨R, C, yh, yl⟩] := by rw [← hset]; simp [Pl.fin]
        have HS' : Hid _ := hS'
        clear hset hS' HSET
        go_wp2_with (first
          | (at_builtin; refine wpList_push0 _ rfl (.tmp 242) (.tmp 244) rfl base 3 (.int .i64 R) rfl O0 rfl rfl hl0 hs0 ?_; intro v1 w1 O1 hb1; have hB1 := hB0.trans hb1; have hs1 : base ≤ w1.heap.size := below_size hB1 HBS.out)
          | (at_builtin; refine wpList_push1 _ rfl (.tmp 246) (.tmp 248) rfl base 3 (.int .i64 C) rfl O1 rfl rfl hl1 hs1 ?_; intro v2 w2 O2 hb2; have hB2 := hB1.trans hb2; have hs2 : base ≤ w2.heap.size := below_size hB2 HBS.out)
          | (at_builtin; refine wpList_push2 _ rfl (.tmp 250) (.tmp 252) rfl base 22 (.int .u64 yh) rfl O2 rfl rfl hl2 hs2 ?_; intro v3 w3 O3 hb3; have hB3 := hB2.trans hb3; have hs3 : base ≤ w3.heap.size := below_size hB3 HBS.out)
          | (at_builtin; refine wpList_push3 _ rfl (.tmp 254) (.tmp 256) rfl base 22 (.int .u64 yl) rfl O3 rfl rfl hl3 hs3 ?_; intro v4 w4 O4 hb4; have hB4 := hB3.trans hb4; have hs4 : base ≤ w4.heap.size := below_size hB4 HBS.out))
        obtain ⟨⟨a4, b4, c4, e4, k4⟩, ⟨a5, b5, c5, e5, k5⟩, ⟨a6, b6, c6, e6, k6⟩, ⟨a7, b7, c7, e7, k7⟩, j0, j1, j2, j3⟩ := FIN.out w4 _ _ _ _ (by rw [HS'.out]; simpa [xr, xc, xh, xl] using O4) hB4
        subst e4
        subst e5
        subst e6
        subst e7
        try go_wp2_with fail
        refine (eqInt_any _ _ _ _ _ _ _ _ _ _ j0 k4 (fun _ _ => rfl) (by omega)).mono ?_
        rintro e wE ⟨rfl, n1, rfl⟩
        go_wp2_with fail
        refine (eqInt_any _ _ _ _ _ _ _ _ _ _ (by exact j1.drewN _) (by exact k5.drewN _) (fun _ _ => rfl) (by omega)).mono ?_
        rintro e wE ⟨rfl, n2, rfl⟩
        go_wp2_with fail
        refine (eqU64_any _ _ _ _ _ _ _ _ _ _ (by exact j2.drewN _) (by exact k6.drewN _) (fun _ _ => rfl) (by omega)).mono ?_
        rintro e wE ⟨rfl, n3, rfl⟩
        go_wp2_with fail
        refine (eqU64_any _ _ _ _ _ _ _ _ _ _ (by exact j3.drewN _) (by exact k7.drewN _) (fun _ _ => rfl) (by omega)).mono ?_
        rintro e wE ⟨rfl, n4, rfl⟩
        go_wp2_with fail
        go_ret
        exact ⟨rfl, below_drewN' (HB.out.trans (hB4.mono (Nat.le_trans HB.out.size (Nat.le_of_eq HBS.out)))) _⟩
end Go.Proofs.Qxb6602192a
