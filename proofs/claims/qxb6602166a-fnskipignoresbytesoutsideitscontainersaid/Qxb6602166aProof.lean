/-
  The proof of 'Rows.FnSkipIgnoresBytesOutsideItsContainerSaid': the frame is the seat's own shell; the walk is typed here.
-/
import Derived.Test.Qxb6602166aWalkC
import Derived.WalkKit
import Derived.ProofKit
import Derived.OpenShut
import Derived.ShutString
import Derived.ChangeOld
import Derived.Below
namespace Go.Proofs.Qxb6602166a.fnSkipIgnoresBytesOutsideItsContainer
open Go.ChangeShapes Go.WideShapes Go.ChangeAt Go.RowKit
open Go.ChangeMaps (open_string shut_string)
set_option linter.unusedVariables false

theorem own : ownKnob Try.prog.godebug = none := by kernel_rfl
theorem laidOut : laidOutB Try.prog = true := by kernel_rfl

/-- WHAT THE WALK IS TOLD OF A SLICE OF INTEGERS THAT CAME IN: it is nil; or it leads to a row of 'cap' cells, the numbers 'zs' (the first 'len' are its elements, the rest its spare room), each fitting its kind. -/
def IsRow (k : IntKind) (w : World) (a : Option Addr) (len cap : Nat) (zs : List Int) : Prop :=
  (a = none ∧ len = 0 ∧ cap = 0 ∧ zs = []) ∨
  ∃ x, a = some x ∧ len ≤ cap ∧ cap ≤ maxLen ∧ zs.length = cap ∧ (∀ i, i < zs.length → w.cell? (x.add i) = some (.int k (zs.getD i 0))) ∧ ∀ n ∈ zs, (Lit.int k n).wf = true

theorem isRow_txt {w : World} {a : Option Addr} {len cap : Nat} {zs : List Int} (h : IsRow .u8 w a len cap zs) : ∃ b off, Txt w a b off len (zs.take len) := by
  rcases h with ⟨rfl, rfl, rfl, rfl⟩ | ⟨x, rfl, hl, _, hz, hcell, _⟩
  · exact ⟨0, 0, rfl, by omega, by omega⟩
  · obtain ⟨b, off, spot⟩ := x
    refine ⟨b, off, by simp; omega, fun h0 => ?_, fun i hi => ?_⟩
    · have hspot : spot = none := by simpa [Addr.add] using World.cell?_spot (hcell 0 (by omega))
      rw [hspot]
    · have hc := hcell i (by omega)
      have hspot : spot = none := by simpa [Addr.add] using World.cell?_spot (hcell 0 (by omega))
      subst hspot
      rw [Addr.add_lit] at hc
      rw [hc]
      have h1 : i < zs.length := by omega
      simp [hi, h1]

/-- It answers some bool. -/
def SomeBool (e : Ending) : Prop := ∃ r : Bool, e = .returned (.bool r)

theorem zz_any (a0 : Option Addr) (n0 c0 : Nat) (a1 : Option Addr) (n1 c1 : Nat) (a2 : Option Addr) (n2 c2 : Nat) (z : Int) (w : World) (h0 : n0 ≤ 9223372036854775807) (h1 : n1 ≤ 9223372036854775807) (h2 : n2 ≤ 9223372036854775807) :
    Calls Try.prog 15 #[.slice a0 n0 c0, .slice a1 n1 c1, .slice a2 n2 c2, .int .i64 z] w fun e w' => w' = w ∧ SomeBool e := by
  go_enter Try.func15, Try.ntmps15
  go_wp2_with fail
  all_goals go_ret
  all_goals exact ⟨rfl, _, rfl⟩

/-! ### THE WALK: the Go text returns true, AND WRITES NOTHING THAT WAS THERE -/
set_option maxHeartbeats 2000000 in
theorem walk (a0 : Option Addr) (len0 cap0 : Nat) (z0 : List Int) (a1 : Option Addr) (len1 cap1 : Nat) (z1 : List Int) (a2 : Option Addr) (len2 cap2 : Nat) (z2 : List Int) (a3 : Int) (w : World) (w0 : IsRow .u8 w a0 len0 cap0 z0) (w1 : IsRow .u8 w a1 len1 cap1 z1) (w2 : IsRow .u8 w a2 len2 cap2 z2) (w3 : (Lit.int .i64 a3).wf = true) :
    Calls Try.prog 5 #[.slice a0 len0 cap0, .slice a1 len1 cap1, .slice a2 len2 cap2, .int .i64 a3] w fun e w' => e = .returned (.bool true) ∧ Below w.heap.size w w' := by
  have m0 : len0 ≤ 9223372036854775807 := by
    rcases w0 with ⟨_, h, _⟩ | ⟨_, _, h, h', _⟩
    · omega
    · unfold maxLen at h'; omega
  have m1 : len1 ≤ 9223372036854775807 := by
    rcases w1 with ⟨_, h, _⟩ | ⟨_, _, h, h', _⟩
    · omega
    · unfold maxLen at h'; omega
  have m2 : len2 ≤ 9223372036854775807 := by
    rcases w2 with ⟨_, h, _⟩ | ⟨_, _, h, h', _⟩
    · omega
    · unfold maxLen at h'; omega
  obtain ⟨b0, o0, ht0⟩ := isRow_txt w0
  obtain ⟨b1, o1, ht1⟩ := isRow_txt w1
  obtain ⟨b2, o2, ht2⟩ := isRow_txt w2
  generalize z0.take len0 = t0 at ht0
  generalize z1.take len1 = t1 at ht1
  generalize z2.take len2 = t2 at ht2
  clear w0 w1 w2 z0 z1 z2
  have hwf := bounds_i64 w3
  clear w3
  by_cases k0 : 1048576 < len0
  · go_enter Try.func5, Try.ntmps5
    go_wp2_with (go_at_call 15; refine (zz_any _ _ _ _ _ _ _ _ _ _ _ m0 m1 m2).mono ?_; rintro e w' ⟨rfl, r, rfl⟩)
    all_goals go_ret
    all_goals exact ⟨rfl, Below.refl _ _⟩
  by_cases k1 : 1048576 < len1
  · go_enter Try.func5, Try.ntmps5
    go_wp2_with (go_at_call 15; refine (zz_any _ _ _ _ _ _ _ _ _ _ _ m0 m1 m2).mono ?_; rintro e w' ⟨rfl, r, rfl⟩)
    all_goals go_ret
    all_goals exact ⟨rfl, Below.refl _ _⟩
  by_cases k2 : 1048576 < len2
  · go_enter Try.func5, Try.ntmps5
    go_wp2_with (go_at_call 15; refine (zz_any _ _ _ _ _ _ _ _ _ _ _ m0 m1 m2).mono ?_; rintro e w' ⟨rfl, r, rfl⟩)
    all_goals go_ret
    all_goals exact ⟨rfl, Below.refl _ _⟩
  by_cases k3 : 1048576 < len0 + len1 + len2
  · go_enter Try.func5, Try.ntmps5
    go_wp2_with (go_at_call 15; refine (zz_any _ _ _ _ _ _ _ _ _ _ _ m0 m1 m2).mono ?_; rintro e w' ⟨rfl, r, rfl⟩)
    all_goals go_ret
    all_goals exact ⟨rfl, Below.refl _ _⟩
  by_cases k4 : a3 < 0
  · go_enter Try.func5, Try.ntmps5
    go_wp2_with (go_at_call 15; refine (zz_any _ _ _ _ _ _ _ _ _ _ _ m0 m1 m2).mono ?_; rintro e w' ⟨rfl, r, rfl⟩)
    all_goals go_ret
    all_goals exact ⟨rfl, Below.refl _ _⟩
  obtain ⟨p, rfl⟩ := Int.eq_ofNat_of_zero_le (show 0 ≤ a3 by omega)
  go_enter Try.func5, Try.ntmps5
  go_wp2_with (first
    | (go_at_call 15; refine (zz_any _ _ _ _ _ _ _ _ _ _ _ m0 m1 m2).mono ?_; rintro e w' ⟨rfl, r, rfl⟩)
    | (go_at_call 13; refine (mClose_any _ _ _ _ _ _ (by omega) len1 p _ _ ht1 (by omega) rfl (by omega)).mono ?_; rintro e w' ⟨rfl, q, ok, rfl, hq⟩))
  · go_ret
    exact ⟨rfl, Below.refl _ _⟩
  · go_ret
    exact ⟨rfl, Below.refl _ _⟩
  have hok : (!ok) = false := by assumption
  obtain ⟨_, _, hcl⟩ := hq (by simpa using hok)
  have hsk := hcl.1
  have hin := Pl.sk_inside (pre := t0) (post := t2) hsk
  rw [ht0.len] at hin
  clear hq hcl
  refine (cloneBytes_any a0 b0 o0 len0 cap0 t0 _ ht0 (by omega)).mono ?_
  rintro e wA ⟨x0, y0, u0, v0, rfl, hT0, hN0, hB0, hL0⟩
  go_wp2_with fail
  refine (cloneBytes_any a1 b1 o1 len1 cap1 t1 _ (ht1.below hB0 (fun h => ht1.lt h)) (by omega)).mono ?_
  rintro e wB ⟨x1, y1, u1, v1, rfl, hT1, hN1, hB1, hL1⟩
  go_wp2_with fail
  refine (cloneBytes_any a2 b2 o2 len2 cap2 t2 _ ((ht2.below hB0 (fun h => ht2.lt h)).below hB1 (fun h => Nat.lt_of_lt_of_le (ht2.lt h) hB0.size)) (by omega)).mono ?_
  rintro e wC ⟨x2, y2, u2, v2, rfl, hT2, hN2, hB2, hL2⟩
  have hT0 := (hT0.below hB1 hL0).below hB2 (fun h => Nat.lt_of_lt_of_le (hL0 h) hB1.size)
  have hT1 := hT1.below hB2 hL1
  go_wp2_with fail
  refine (join3_any x0 y0 u0 len0 v0 t0 x1 y1 u1 len1 v1 t1 x2 y2 u2 len2 v2 t2 _ hT0 hT1 hT2 hN0 hN1 hN2 (by omega)).mono ?_
  rintro e wD ⟨x3, y3, u3, v3, rfl, hT3, _, hB3, hL3⟩
  have hT1 := hT1.below hB3 (fun h => Nat.lt_of_lt_of_le (hL1 h) hB2.size)
  have hl1 : 0 < len1 → y1 < wD.heap.size := fun h => hT1.lt h
  go_wp2_with fail
  refine (newCursor_any x1 len1 v1 p _ rfl _).mono ?_
  rintro e wE ⟨rfl, hC1, hB4, hs4⟩
  have S4 : Hid _ := hs4
  clear hs4
  go_wp2_with fail
  refine (skip_any wD.heap.size x1 y1 u1 len1 v1 t1 p q _ hC1 (hT1.below hB4 hl1) hl1 hsk (by omega)).mono ?_
  rintro e wF ⟨rfl, hC2, hB5, hs5⟩
  have S5 : Hid _ := hs5
  clear hs5
  have hDF : wD.heap.size < wF.heap.size := by rw [S5.out, S4.out]; omega
  go_wp2_with fail
  refine (newCursor_any x3 (len0 + len1 + len2) v3 (len0 + p) _ (by omega) _).mono ?_
  rintro e wG ⟨rfl, hC3, hB6, hs6⟩
  have S6 : Hid _ := hs6
  clear hs6
  have hC2 := hC2.below hB6 (by omega)
  have hT3 := ((hT3.below hB4 hL3).below hB5 hL3).below hB6 (fun h => by have := hL3 h; omega)
  go_wp2_with fail
  refine (skip_any wF.heap.size x3 y3 u3 _ v3 (t0 ++ t1 ++ t2) (len0 + p) (len0 + q) _ hC3 hT3 (fun h => by have := hL3 h; omega) hin (by omega)).mono ?_
  rintro e wH ⟨rfl, hC4, hB7, hs7⟩
  clear hs7
  have hC2 := hC2.below hB7 (by omega)
  have hB : Below w'.heap.size w' wH :=
    ((((((hB0.trans (hB1.mono hB0.size)).trans (hB2.mono (Nat.le_trans hB0.size hB1.size))).trans (hB3.mono (Nat.le_trans (Nat.le_trans hB0.size hB1.size) hB2.size))).trans
      (hB4.mono (Nat.le_trans (Nat.le_trans (Nat.le_trans hB0.size hB1.size) hB2.size) hB3.size))).trans (hB5.mono (Nat.le_trans (Nat.le_trans (Nat.le_trans hB0.size hB1.size) hB2.size) hB3.size))).trans
      (hB6.mono (by have := hB0.size; have := hB1.size; have := hB2.size; have := hB3.size; omega))).trans (hB7.mono (by have := hB0.size; have := hB1.size; have := hB2.size; have := hB3.size; omega))
  have HB : Hid _ := hB
  clear hB
  have hql := hC4.c1
  go_wp2_with fail
  refine (at_any _ _ _ _ _ _ hC4).mono ?_
  rintro e wI ⟨rfl, rfl⟩
  go_wp2_with fail
  refine (at_any _ _ _ _ _ _ hC2).mono ?_
  rintro e wJ ⟨rfl, rfl⟩
  go_wp2_with fail
  go_ret
  exact ⟨by simp, HB.out⟩

/-! ### THE ROW's STEP: WRITTEN OUT: LEAVE IT -/
set_option maxRecDepth 100000 in
theorem lifted (os : Os) (started : os.Started) (H : Type) (enc : TypeId × Value → H) :
    ReturnsInHanded {} Try.checked os 5 .any (Rows.fnSkipIgnoresBytesOutsideItsContainerSpec.pre6 enc Try.prog Try.f5 Rows.fnSkipIgnoresBytesOutsideItsContainerRow.domain false) (Rows.fnSkipIgnoresBytesOutsideItsContainerSpec.post enc Try.prog Try.f5 false true false false) := by
  refine returnsInHanded_of_change (C := Try.checked) own started (by kernel_rfl) Try.func5
    (ChangeSpec.witness6 (enc := enc) (C := Try.checked) false ⟨#[], #[.slice none 0 0, .slice none 0 0, .slice none 0 0, .int .i64 0], []⟩ 8 (by kernel_rfl) (by kernel_rfl) (by kernel_rfl) (by kernel_rfl)) ?_
  intro W base args ds gs before hval0 hW hcnd _
  have hval : ∀ (j : Nat) t v, Try.f5.params[j]? = some t → args[j]? = some v → Value.okWide Try.prog W .any base t v := hval0
  have hW' := hW
  obtain ⟨p, q, hA0, hV, rfl, hfz, hnd⟩ := hW
  have hA : DataW.TrodAll enc Try.prog W 0 (fun _ => true) true Try.f5.params.toList args.toList ds p := hA0
  rw [Try.params5] at hA hval
  obtain ⟨v0, vs0, d0, ds0, p0, q0, hargs, rfl, rfl, h0, r0⟩ := trodAll_cons hA
  obtain ⟨v1, vs1, d1, ds1, p1, q1, rfl, rfl, rfl, h1, r1⟩ := trodAll_cons r0
  obtain ⟨v2, vs2, d2, ds2, p2, q2, rfl, rfl, rfl, h2, r2⟩ := trodAll_cons r1
  obtain ⟨v3, vs3, d3, ds3, p3, q3, rfl, rfl, rfl, h3, r3⟩ := trodAll_cons r2
  obtain ⟨rfl, rfl, rfl⟩ := trodAll_nil r3
  obtain rfl : args = #[v0, v1, v2, v3] := by cases args; simp_all
  obtain ⟨rfl, rfl⟩ := trodVars_none hV
  obtain ⟨a0, len0, cap0, rfl⟩ := okWide_slice Try.underlying22 (hval 0 22 v0 rfl rfl)
  have k0 := h0
  have lt0 : ∀ x ∈ p0, x.block < W.heap.size := by obtain ⟨m, hm⟩ := k0; exact DataW.trod_lt m _ _ _ hm
  obtain ⟨z0, w0⟩ : ∃ zs, IsRow .u8 W a0 len0 cap0 zs := by
    obtain ⟨fuel, hf⟩ := h0
    rcases open_ints Try.underlying22 Try.underlying5 (by kernel_rfl) hf with ⟨hcs, _⟩ | ⟨x, l, c, zs, hcs, _, hl, hm, hz, _, hcell, hwz⟩
    · simp [Value.cells] at hcs
      obtain ⟨rfl, rfl, rfl⟩ := hcs
      exact ⟨[], .inl ⟨rfl, rfl, rfl, rfl⟩⟩
    · simp [Value.cells] at hcs
      obtain ⟨rfl, rfl, rfl⟩ := hcs
      exact ⟨zs, .inr ⟨_, rfl, hl, hm, by simpa using hz, hcell, hwz⟩⟩
  obtain ⟨a1, len1, cap1, rfl⟩ := okWide_slice Try.underlying22 (hval 1 22 v1 rfl rfl)
  have k1 := h1
  have lt1 : ∀ x ∈ p1, x.block < W.heap.size := by obtain ⟨m, hm⟩ := k1; exact DataW.trod_lt m _ _ _ hm
  obtain ⟨z1, w1⟩ : ∃ zs, IsRow .u8 W a1 len1 cap1 zs := by
    obtain ⟨fuel, hf⟩ := h1
    rcases open_ints Try.underlying22 Try.underlying5 (by kernel_rfl) hf with ⟨hcs, _⟩ | ⟨x, l, c, zs, hcs, _, hl, hm, hz, _, hcell, hwz⟩
    · simp [Value.cells] at hcs
      obtain ⟨rfl, rfl, rfl⟩ := hcs
      exact ⟨[], .inl ⟨rfl, rfl, rfl, rfl⟩⟩
    · simp [Value.cells] at hcs
      obtain ⟨rfl, rfl, rfl⟩ := hcs
      exact ⟨zs, .inr ⟨_, rfl, hl, hm, by simpa using hz, hcell, hwz⟩⟩
  obtain ⟨a2, len2, cap2, rfl⟩ := okWide_slice Try.underlying22 (hval 2 22 v2 rfl rfl)
  have k2 := h2
  have lt2 : ∀ x ∈ p2, x.block < W.heap.size := by obtain ⟨m, hm⟩ := k2; exact DataW.trod_lt m _ _ _ hm
  obtain ⟨z2, w2⟩ : ∃ zs, IsRow .u8 W a2 len2 cap2 zs := by
    obtain ⟨fuel, hf⟩ := h2
    rcases open_ints Try.underlying22 Try.underlying5 (by kernel_rfl) hf with ⟨hcs, _⟩ | ⟨x, l, c, zs, hcs, _, hl, hm, hz, _, hcell, hwz⟩
    · simp [Value.cells] at hcs
      obtain ⟨rfl, rfl, rfl⟩ := hcs
      exact ⟨[], .inl ⟨rfl, rfl, rfl, rfl⟩⟩
    · simp [Value.cells] at hcs
      obtain ⟨rfl, rfl, rfl⟩ := hcs
      exact ⟨zs, .inr ⟨_, rfl, hl, hm, by simpa using hz, hcell, hwz⟩⟩
  obtain ⟨a3, rfl, rfl, rfl, w3⟩ := open_int Try.underlying3 (hval 3 3 v3 rfl rfl) h3
  clear hA0 hval0
  refine (walk a0 len0 cap0 z0 a1 len1 cap1 z1 a2 len2 cap2 z2 a3 W w0 w1 w2 w3).mono fun e W' ⟨he, bel⟩ => ?_
  subst he
  exact ⟨_, rfl, _, _, _, [], _, [], hW', trodAll_mk1 (shut_bool Try.underlying4 _), (trodAll_cons_mk (Below.trod laidOut (by kernel_rfl) (of_decide_eq_true (by kernel_rfl)) k0 bel lt0) (trodAll_cons_mk (Below.trod laidOut (by kernel_rfl) (of_decide_eq_true (by kernel_rfl)) k1 bel lt1) (trodAll_cons_mk (Below.trod laidOut (by kernel_rfl) (of_decide_eq_true (by kernel_rfl)) k2 bel lt2) (trodAll_cons_mk (shut_int Try.underlying3 w3) trodAll_mk0)))), rfl, bel.frame _, fun h => by cases h⟩

theorem over : Rows.fnSkipIgnoresBytesOutsideItsContainerRow.holds Try.pinned (OpenSpec.ofChange Rows.fnSkipIgnoresBytesOutsideItsContainerSpec) :=
  OpenClaim.holds_of_wide 5 Try.f5 rfl rfl rfl rfl rfl rfl rfl ⟨rfl, rfl, rfl, rfl, rfl⟩ rfl rfl rfl rfl rfl (by kernel_rfl) Try.func5 (by kernel_rfl)
    (of_decide_eq_true (by kernel_rfl)) (by unfold Func.isWrapper; first | (rw [if_pos (by decide +kernel)]; kernel_rfl) | (rw [if_neg (by decide +kernel)]; exact ⟨rfl, rfl⟩))
    (fun os started H enc _ => lifted os started H enc)

/-- ████ THE STATEMENT ████ -/
theorem proved : Rows.FnSkipIgnoresBytesOutsideItsContainerSaid := over
#print axioms proved
end Go.Proofs.Qxb6602166a.fnSkipIgnoresBytesOutsideItsContainer
