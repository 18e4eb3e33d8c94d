/-
  The proof of 'Rows.FnTableCellsSetOneSaid'.
-/
import Derived.Test.Qxb6602192aWalkH
import Derived.Test.Qxb6602192aOpen
import Derived.WalkKit
import Derived.ProofKit
import Derived.OpenShut
import Derived.ChangeOld
import Derived.Below
namespace Go.Proofs.Qxb6602192a.fnTableCellsSetOne
open Go.ChangeShapes Go.WideShapes Go.ChangeAt Go.RowKit

theorem walk9 (ga0 : Option Addr) (gb0 go0 G0 gc0 : Nat) (A0 : Nat → Option Addr) (L0 C0 RB0 RO0 : Nat → Nat) (ok : Nat → Nat → Bool)
    (ga1 : Option Addr) (gb1 go1 G1 gc1 : Nat) (A1 : Nat → Option Addr) (L1 C1 RB1 RO1 : Nat → Nat) (hi : Nat → Nat → Int)
    (ga2 : Option Addr) (gb2 go2 G2 gc2 : Nat) (A2 : Nat → Option Addr) (L2 C2 RB2 RO2 : Nat → Nat) (lo : Nat → Nat → Int) (y0 y1 y2 y3 : Int) (w : World)
    (I : In3 w ga0 gb0 go0 G0 A0 L0 C0 RB0 RO0 ok ga1 gb1 go1 G1 A1 L1 C1 RB1 RO1 hi ga2 gb2 go2 G2 A2 L2 C2 RB2 RO2 lo) :
    Calls Try.prog 9 #[.slice ga0 G0 gc0, .slice ga1 G1 gc1, .slice ga2 G2 gc2, .int .i64 y0, .int .i64 y1, .int .u64 y2, .int .u64 y3] w fun e w' => e = .returned (.bool true) ∧ Below w.heap.size w w' := by
  by_cases hout : 4096 < G0 ∨ 4096 < G1 ∨ 4096 < G2 ∨ y0 < 0 ∨ (G0 : Int) ≤ y0 ∨ y1 < 0 ∨ ∃ R : Nat, y0 = R ∧ R < G0 ∧ (L0 R : Int) ≤ y1
  · exact walk9_out ga0 gb0 go0 G0 gc0 A0 L0 C0 RB0 RO0 ok ga1 gb1 go1 G1 gc1 A1 L1 C1 RB1 RO1 hi ga2 gb2 go2 G2 gc2 A2 L2 C2 RB2 RO2 lo y0 y1 y2 y3 w I hout
  · have k0 : ¬ 4096 < G0 := fun h => hout (.inl h)
    have k1 : ¬ 4096 < G1 := fun h => hout (.inr (.inl h))
    have k2 : ¬ 4096 < G2 := fun h => hout (.inr (.inr (.inl h)))
    have k3 : ¬ y0 < 0 := fun h => hout (.inr (.inr (.inr (.inl h))))
    have k4 : ¬ (G0 : Int) ≤ y0 := fun h => hout (.inr (.inr (.inr (.inr (.inl h)))))
    have k5 : ¬ y1 < 0 := fun h => hout (.inr (.inr (.inr (.inr (.inr (.inl h))))))
    have k6 : ¬ ∃ R : Nat, y0 = R ∧ R < G0 ∧ (L0 R : Int) ≤ y1 := fun h => hout (.inr (.inr (.inr (.inr (.inr (.inr h))))))
    obtain ⟨R, rfl⟩ := Int.eq_ofNat_of_zero_le (show 0 ≤ y0 by omega)
    obtain ⟨C, rfl⟩ := Int.eq_ofNat_of_zero_le (show 0 ≤ y1 by omega)
    have hC : C < L0 R := by
      rcases Nat.lt_or_ge C (L0 R) with h | h
      · exact h
      · exact absurd ⟨R, rfl, by omega, by omega⟩ k6
    exact walk9_in ga0 gb0 go0 G0 gc0 A0 L0 C0 RB0 RO0 ok ga1 gb1 go1 G1 gc1 A1 L1 C1 RB1 RO1 hi ga2 gb2 go2 G2 gc2 A2 L2 C2 RB2 RO2 lo R C y2 y3 w I k0 k1 k2 (by omega) hC

set_option maxRecDepth 100000 in
theorem lifted (os : Os) (started : os.Started) (H : Type) (enc : TypeId × Value → H) :
    ReturnsInHanded {} Try.checked os 9 .any (Rows.fnTableCellsSetOneSpec.pre6 enc Try.prog Try.f9 Rows.fnTableCellsSetOneRow.domain false) (Rows.fnTableCellsSetOneSpec.post enc Try.prog Try.f9 false true false false) := by
  refine returnsInHanded_of_change (C := Try.checked) Try.own started (by kernel_rfl) Try.func9
    (ChangeSpec.witness6 (enc := enc) (C := Try.checked) false ⟨#[], #[.slice none 0 0, .slice none 0 0, .slice none 0 0, .int .i64 0, .int .i64 0, .int .u64 0, .int .u64 0], []⟩ 8 (by kernel_rfl) (by kernel_rfl) (by kernel_rfl) (by kernel_rfl)) ?_
  intro W base args ds gs before hval0 hW _ _
  have hval : ∀ (j : Nat) t v, Try.f9.params[j]? = some t → args[j]? = some v → Value.okWide Try.prog W .any base t v := hval0
  have hW' := hW
  obtain ⟨p, q, hA0, hV, rfl, _, _⟩ := hW
  have hA : DataW.TrodAll enc Try.prog W 0 (fun _ => true) true Try.f9.params.toList args.toList ds p := hA0
  rw [Try.params9] at hA hval
  obtain ⟨v0, vs0, d0, ds0, p0, q0, hargs, rfl, rfl, h0, r0⟩ := trodAll_cons hA
  obtain ⟨v1, vs1, d1, ds1, p1, q1, rfl, rfl, rfl, h1, r1⟩ := trodAll_cons r0
  obtain ⟨v2, vs2, d2, ds2, p2, q2, rfl, rfl, rfl, h2, r2⟩ := trodAll_cons r1
  obtain ⟨v3, vs3, d3, ds3, p3, q3, rfl, rfl, rfl, h3, r3⟩ := trodAll_cons r2
  obtain ⟨v4, vs4, d4, ds4, p4, q4, rfl, rfl, rfl, h4, r4⟩ := trodAll_cons r3
  obtain ⟨v5, vs5, d5, ds5, p5, q5, rfl, rfl, rfl, h5, r5⟩ := trodAll_cons r4
  obtain ⟨v6, vs6, d6, ds6, p6, q6, rfl, rfl, rfl, h6, r6⟩ := trodAll_cons r5
  obtain ⟨rfl, rfl, rfl⟩ := trodAll_nil r6
  obtain rfl : args = #[v0, v1, v2, v3, v4, v5, v6] := by cases args; simp_all
  obtain ⟨rfl, rfl⟩ := trodVars_none hV
  obtain ⟨a0, len0, cap0, rfl⟩ := okWide_slice Try.underlying36 (hval 0 36 v0 rfl rfl)
  have k0 := h0
  have lt0 : ∀ x ∈ p0, x.block < W.heap.size := by obtain ⟨m, hm⟩ := k0; exact DataW.trod_lt m _ _ _ hm
  obtain ⟨a1, len1, cap1, rfl⟩ := okWide_slice Try.underlying37 (hval 1 37 v1 rfl rfl)
  have k1 := h1
  have lt1 : ∀ x ∈ p1, x.block < W.heap.size := by obtain ⟨m, hm⟩ := k1; exact DataW.trod_lt m _ _ _ hm
  obtain ⟨a2, len2, cap2, rfl⟩ := okWide_slice Try.underlying37 (hval 2 37 v2 rfl rfl)
  have k2 := h2
  have lt2 : ∀ x ∈ p2, x.block < W.heap.size := by obtain ⟨m, hm⟩ := k2; exact DataW.trod_lt m _ _ _ hm
  obtain ⟨f0, hf0⟩ := h0
  obtain ⟨f1, hf1⟩ := h1
  obtain ⟨f2, hf2⟩ := h2
  obtain ⟨gb0, go0, A0, L0, C0, RB0, RO0, B0, g0, n0, m0⟩ := open_bgrid hf0
  obtain ⟨gb1, go1, A1, L1, C1, RB1, RO1, B1, g1, n1, m1⟩ := open_ugrid hf1
  obtain ⟨gb2, go2, A2, L2, C2, RB2, RO2, B2, g2, n2, m2⟩ := open_ugrid hf2
  obtain ⟨y0, rfl, rfl, rfl, w3⟩ := open_int Try.underlying3 (hval 3 3 v3 rfl rfl) h3
  obtain ⟨y1, rfl, rfl, rfl, w4⟩ := open_int Try.underlying3 (hval 4 3 v4 rfl rfl) h4
  obtain ⟨y2, rfl, rfl, rfl, w5⟩ := open_int Try.underlying22 (hval 5 22 v5 rfl rfl) h5
  obtain ⟨y3, rfl, rfl, rfl, w6⟩ := open_int Try.underlying22 (hval 6 22 v6 rfl rfl) h6
  clear hA0 hval0 hf0 hf1 hf2
  refine (walk9 a0 gb0 go0 len0 cap0 A0 L0 C0 RB0 RO0 B0 a1 gb1 go1 len1 cap1 A1 L1 C1 RB1 RO1 B1 a2 gb2 go2 len2 cap2 A2 L2 C2 RB2 RO2 B2 y0 y1 y2 y3 W ⟨g0, g1, g2, n0, n1, n2, m0, m1, m2⟩).mono fun e W' ⟨he, bel⟩ => ?_
  subst he
  exact ⟨_, rfl, _, _, _, [], _, [], hW', trodAll_mk1 (shut_bool Try.underlying4 _), (trodAll_cons_mk (Below.trod Try.laidOut (by kernel_rfl) (of_decide_eq_true (by kernel_rfl)) k0 bel lt0) (trodAll_cons_mk (Below.trod Try.laidOut (by kernel_rfl) (of_decide_eq_true (by kernel_rfl)) k1 bel lt1) (trodAll_cons_mk (Below.trod Try.laidOut (by kernel_rfl) (of_decide_eq_true (by kernel_rfl)) k2 bel lt2) (trodAll_cons_mk (shut_int Try.underlying3 w3) (trodAll_cons_mk (shut_int Try.underlying3 w4) (trodAll_cons_mk (shut_int Try.underlying22 w5) (trodAll_cons_mk (shut_int Try.underlying22 w6) trodAll_mk0))))))), rfl, bel.frame _, fun h => by cases h⟩

theorem over : Rows.fnTableCellsSetOneRow.holds Try.pinned (OpenSpec.ofChange Rows.fnTableCellsSetOneSpec) :=
  OpenClaim.holds_of_wide 9 Try.f9 rfl rfl rfl rfl rfl rfl rfl ⟨rfl, rfl, rfl, rfl, rfl⟩ rfl rfl rfl rfl rfl (by kernel_rfl) Try.func9 (by kernel_rfl)
    (of_decide_eq_true (by kernel_rfl)) (by unfold Func.isWrapper; first | (rw [if_pos (by decide +kernel)]; kernel_rfl) | (rw [if_neg (by decide +kernel)]; exact ⟨rfl, rfl⟩))
    (fun os started H enc _ => lifted os started H enc)

theorem proved : Rows.FnTableCellsSetOneSaid := over
#print axioms proved
end Go.Proofs.Qxb6602192a.fnTableCellsSetOne
