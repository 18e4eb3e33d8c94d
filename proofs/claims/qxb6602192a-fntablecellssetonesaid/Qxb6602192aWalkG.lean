/-
  The walk of FnTableCellsSetOne.
-/
import Derived.Test.Qxb6602192aWalkF
namespace Go.Proofs.Qxb6602192a
open Go.RowKit

/-- The four columns of a list of cells, as values. -/
def xr (l : List Pl.Cel) : List Value := (l.map fun x => (x.r : Int)).map (Value.int .i64)
def xc (l : List Pl.Cel) : List Value := (l.map fun x => (x.c : Int)).map (Value.int .i64)
def xh (l : List Pl.Cel) : List Value := (l.map fun x => x.h).map (Value.int .u64)
def xl (l : List Pl.Cel) : List Value := (l.map fun x => x.l).map (Value.int .u64)

set_option maxHeartbeats 8000000 in
set_option maxRecDepth 100000 in
theorem walk9_out (ga0 : Option Addr) (gb0 go0 G0 gc0 : Nat) (A0 : Nat → Option Addr) (L0 C0 RB0 RO0 : Nat → Nat) (ok : Nat → Nat → Bool)
    (ga1 : Option Addr) (gb1 go1 G1 gc1 : Nat) (A1 : Nat → Option Addr) (L1 C1 RB1 RO1 : Nat → Nat) (hi : Nat → Nat → Int)
    (ga2 : Option Addr) (gb2 go2 G2 gc2 : Nat) (A2 : Nat → Option Addr) (L2 C2 RB2 RO2 : Nat → Nat) (lo : Nat → Nat → Int) (y0 y1 y2 y3 : Int) (w : World)
    (I : In3 w ga0 gb0 go0 G0 A0 L0 C0 RB0 RO0 ok ga1 gb1 go1 G1 A1 L1 C1 RB1 RO1 hi ga2 gb2 go2 G2 A2 L2 C2 RB2 RO2 lo)
    (hout : 4096 < G0 ∨ 4096 < G1 ∨ 4096 < G2 ∨ y0 < 0 ∨ (G0 : Int) ≤ y0 ∨ y1 < 0 ∨ ∃ R : Nat, y0 = R ∧ R < G0 ∧ (L0 R : Int) ≤ y1) :
    Calls Try.prog 9 #[.slice ga0 G0 gc0, .slice ga1 G1 gc1, .slice ga2 G2 gc2, .int .i64 y0, .int .i64 y1, .int .u64 y2, .int .u64 y3] w fun e w' => e = .returned (.bool true) ∧ Below w.heap.size w w' := by
  have m0 := I.m0
  have m1 := I.m1
  have m2 := I.m2
  by_cases k0 : 4096 < G0
  · clear hout
    go_enter Try.func9, Try.ntmps9
    go_wp2_with (go_at_call 28; refine (zz28_any _ _ _ _ _ _ _ I.h0 I.h1 I.h2 m0 m1 m2).mono ?_; rintro e w' ⟨rfl, r, rfl⟩)
    all_goals go_ret
    all_goals exact ⟨rfl, Below.refl _ _⟩
  by_cases k1 : 4096 < G1
  · clear hout
    go_enter Try.func9, Try.ntmps9
    go_wp2_with (go_at_call 28; refine (zz28_any _ _ _ _ _ _ _ I.h0 I.h1 I.h2 m0 m1 m2).mono ?_; rintro e w' ⟨rfl, r, rfl⟩)
    all_goals go_ret
    all_goals exact ⟨rfl, Below.refl _ _⟩
  by_cases k2 : 4096 < G2
  · clear hout
    go_enter Try.func9, Try.ntmps9
    go_wp2_with (go_at_call 28; refine (zz28_any _ _ _ _ _ _ _ I.h0 I.h1 I.h2 m0 m1 m2).mono ?_; rintro e w' ⟨rfl, r, rfl⟩)
    all_goals go_ret
    all_goals exact ⟨rfl, Below.refl _ _⟩
  by_cases k3 : y0 < 0
  · clear hout
    go_enter Try.func9, Try.ntmps9
    go_wp2_with (first
      | (go_at_call 28; refine (zz28_any _ _ _ _ _ _ _ I.h0 I.h1 I.h2 m0 m1 m2).mono ?_; rintro e w' ⟨rfl, r, rfl⟩)
      | (go_at_call 23; refine (bytes_any _ _ _ I.h0 I.h1 I.h2 (by omega) (by omega) (by omega)).mono ?_; rintro e w' ⟨rfl, b, rfl, hbytes⟩)
      | (go_at_call 24; refine (shape_any _ _ _ I.h0 I.h1 I.h2 (by omega) (by omega) (by omega)).mono ?_; rintro e w' ⟨⟨nd, rfl⟩, sh, rfl, hshape⟩))
    all_goals go_ret
    all_goals exact ⟨rfl, by first | exact Below.refl _ _ | exact below_drewN' (Below.refl _ _) _⟩
  by_cases k4 : (G0 : Int) ≤ y0
  · clear hout
    go_enter Try.func9, Try.ntmps9
    go_wp2_with (first
      | (go_at_call 28; refine (zz28_any _ _ _ _ _ _ _ I.h0 I.h1 I.h2 m0 m1 m2).mono ?_; rintro e w' ⟨rfl, r, rfl⟩)
      | (go_at_call 23; refine (bytes_any _ _ _ I.h0 I.h1 I.h2 (by omega) (by omega) (by omega)).mono ?_; rintro e w' ⟨rfl, b, rfl, hbytes⟩)
      | (go_at_call 24; refine (shape_any _ _ _ I.h0 I.h1 I.h2 (by omega) (by omega) (by omega)).mono ?_; rintro e w' ⟨⟨nd, rfl⟩, sh, rfl, hshape⟩))
    all_goals go_ret
    all_goals exact ⟨rfl, by first | exact Below.refl _ _ | exact below_drewN' (Below.refl _ _) _⟩
  by_cases k5 : y1 < 0
  · clear hout
    go_enter Try.func9, Try.ntmps9
    go_wp2_with (first
      | (go_at_call 28; refine (zz28_any _ _ _ _ _ _ _ I.h0 I.h1 I.h2 m0 m1 m2).mono ?_; rintro e w' ⟨rfl, r, rfl⟩)
      | (go_at_call 23; refine (bytes_any _ _ _ I.h0 I.h1 I.h2 (by omega) (by omega) (by omega)).mono ?_; rintro e w' ⟨rfl, b, rfl, hbytes⟩)
      | (go_at_call 24; refine (shape_any _ _ _ I.h0 I.h1 I.h2 (by omega) (by omega) (by omega)).mono ?_; rintro e w' ⟨⟨nd, rfl⟩, sh, rfl, hshape⟩))
    all_goals go_ret
    all_goals exact ⟨rfl, by first | exact Below.refl _ _ | exact below_drewN' (Below.refl _ _) _⟩
  obtain ⟨R, rfl, hR, hC⟩ : ∃ R : Nat, y0 = R ∧ R < G0 ∧ (L0 R : Int) ≤ y1 := by
    rcases hout with h | h | h | h | h | h | h
    · omega
    · omega
    · omega
    · omega
    · omega
    · omega
    · exact h
  obtain rfl := I.h0.addr (by omega)
  have hrow := I.h0.row R hR
  clear hout
  go_enter Try.func9, Try.ntmps9
  go_wp2_with (first
    | (go_at_call 28; refine (zz28_any _ _ _ _ _ _ _ I.h0 I.h1 I.h2 m0 m1 m2).mono ?_; rintro e w' ⟨rfl, r, rfl⟩)
    | (go_at_call 23; refine (bytes_any _ _ _ I.h0 I.h1 I.h2 (by omega) (by omega) (by omega)).mono ?_; rintro e w' ⟨rfl, b, rfl, hbytes⟩)
    | (go_at_call 24; refine (shape_any _ _ _ I.h0 I.h1 I.h2 (by omega) (by omega) (by omega)).mono ?_; rintro e w' ⟨⟨nd, rfl⟩, sh, rfl, hshape⟩))
  all_goals go_ret
  all_goals exact ⟨rfl, by first | exact Below.refl _ _ | exact below_drewN' (Below.refl _ _) _⟩
end Go.Proofs.Qxb6602192a
