/-
  THE PROOF of 'Rows.FnLettersMatchesReverseFillModelSaid'.
-/
import Derived.Test.Qxb6602457aRows
import Derived.Test.Qxb6602457aWalkD
import Derived.WalkKit
import Derived.ProofKit
import Derived.OpenShut
import Derived.ShutString
import Derived.ChangeOld
import Derived.Below
import Derived.Deep.Strs
namespace Go.Proofs.Qxb6602457a.fnLettersMatchesReverseFillModel
open Go.ChangeShapes Go.WideShapes Go.ChangeAt Go.RowKit
open Go.ChangeMaps (open_string shut_string)
open Go.Proofs.Qxb6602457a
set_option linter.unusedVariables false

theorem own : ownKnob Try.prog.godebug = none := by kernel_rfl
theorem laidOut : laidOutB Try.prog = true := by kernel_rfl

set_option maxHeartbeats 2000000 in
set_option maxRecDepth 100000 in
theorem walk (z : Int) (a1 : Option Addr) (b1 o1 n1 c1 : Nat) (f : Nat → Int) (a2 : Option Addr) (b2 o2 n2 c2 : Nat) (g : Nat → ByteArray) (w : World) (h1 : Rw w a1 b1 o1 n1 (ints f)) (h2 : Rw w a2 b2 o2 n2 (strs g))
    (hn1 : n1 ≤ maxLen) (hn2 : n2 ≤ maxLen) (hg : ∀ i, i < n2 → (g i).size ≤ maxLen) :
    Calls Try.prog 5 #[.int .i64 z, .slice a1 n1 c1, .slice a2 n2 c2] w fun e w' => e = .returned (.bool true) ∧ Below w.heap.size w w' := by
  have hm1 : n1 ≤ 9223372036854775807 := by unfold maxLen at hn1; omega
  have hm2 : n2 ≤ 9223372036854775807 := by unfold maxLen at hn2; omega
  have HG : Hid (∀ i, i < n2 → (g i).size ≤ 9223372036854775807) := fun i hi => by have := hg i hi; unfold maxLen at this; omega
  clear hg hn1 hn2
  go_enter Try.func5, Try.ntmps5
  by_cases hb1 : n1 > 65536
  · have hz : (n1 : Int) > 65536 := by omega
    go_wp2_with (go_at_call 13; refine (zzBytes_any z a1 n1 c1 a2 b2 o2 n2 c2 g _ h2 hm1 hm2 HG.out).mono ?_; rintro e w0 ⟨rfl, r, rfl, _⟩)
    all_goals go_ret
    all_goals exact ⟨rfl, Below.refl _ _⟩
  have hz1 : ¬ (n1 : Int) > 65536 := by omega
  by_cases hb2 : n2 > 65536
  · have hz : (n2 : Int) > 65536 := by omega
    go_wp2_with (go_at_call 13; refine (zzBytes_any z a1 n1 c1 a2 b2 o2 n2 c2 g _ h2 hm1 hm2 HG.out).mono ?_; rintro e w0 ⟨rfl, r, rfl, _⟩)
    all_goals go_ret
    all_goals exact ⟨rfl, Below.refl _ _⟩
  have hz2 : ¬ (n2 : Int) > 65536 := by omega
  go_wp2_with fail
  refine (zzBytes_any z a1 n1 c1 a2 b2 o2 n2 c2 g _ h2 hm1 hm2 HG.out).mono ?_
  rintro e w0 ⟨rfl, r, rfl, hsz⟩
  cases r with
  | false =>
    go_wp2_with fail
    go_ret
    exact ⟨rfl, Below.refl _ _⟩
  | true =>
  have HSZ : Hid (∀ i, i < n2 → (g i).size ≤ 1048576) := hsz rfl
  clear hsz
  go_wp2_with fail
  refine (tableBytes_any a1 n1 c1 a2 b2 o2 n2 c2 g _ h2 (by omega) (by omega) HSZ.out).mono ?_
  rintro e w1 ⟨rfl, m, rfl, hsum⟩
  by_cases hm : m > 1048576
  · have hmz : (m : Int) > 1048576 := by omega
    go_wp2_with fail
    go_ret
    exact ⟨rfl, Below.refl _ _⟩
  have hmz : ¬ (m : Int) > 1048576 := by omega
  have HSUM : Hid (sumL g n2 ≤ 1048576) := hsum (by omega)
  clear hsum
  by_cases hne : n1 = n2
  · subst hne
    go_wp2_with fail
    refine (cloneInts_any a1 b1 o1 n1 c1 f _ h1 (by omega)).mono ?_
    rintro e w2 ⟨hB2, x1, y1, u1, v1, rfl, h1'⟩
    have h2a := h2.below hB2 (fun h => h2.lt h)
    go_wp2_with fail
    refine (cloneStrs_any a2 b2 o2 n1 c2 g _ h2a (by omega)).mono ?_
    rintro e w3 ⟨hB3, x2, y2, u2, v2, rfl, h2'⟩
    have h1'' := h1'.below hB3 (fun h => h1'.lt h)
    go_wp2_with fail
    refine (zzLetters_any z x1 y1 u1 v1 x2 y2 u2 v2 n1 f g _ h1'' h2' (by omega) HSUM.out).mono ?_
    rintro e w4 ⟨rfl, hB4⟩
    have h1''' := h1''.below hB4 (fun h => h1''.lt h)
    have h2'' := h2'.below hB4 (fun h => h2'.lt h)
    go_wp2_with fail
    refine (model_any z x1 y1 u1 v1 x2 y2 u2 v2 n1 f g _ h1''' h2'' (by omega) HSUM.out).mono ?_
    rintro e w5 ⟨rfl, hB5⟩
    go_wp2_with fail
    go_ret
    exact ⟨by simp, ((hB2.trans (hB3.mono hB2.size)).trans (hB4.mono (Nat.le_trans hB2.size hB3.size))).trans (hB5.mono (Nat.le_trans (Nat.le_trans hB2.size hB3.size) hB4.size))⟩
  · have hnz : ((n1 : Int) != (n2 : Int)) = true := by simp; omega
    go_wp2_with fail
    go_ret
    exact ⟨rfl, Below.refl _ _⟩

/-- What is told of a slice of integers that came in. -/
theorem rw_ints {w : World} {x : Addr} {len : Nat} {zs : List Int} (hl : len ≤ zs.length) (hcell : ∀ i, i < zs.length → w.cell? (x.add i) = some (.int .i64 (zs.getD i 0))) : ∃ b off f, Rw w (some x) b off len (ints f) := by
  obtain ⟨b, off, spot⟩ := x
  refine ⟨b, off, fun i => zs.getD i 0, fun h0 => ?_, fun i hi => ?_⟩
  · have hspot : spot = none := by simpa [Addr.add] using World.cell?_spot (hcell 0 (by omega))
    rw [hspot]
  · have hspot : spot = none := by simpa [Addr.add] using World.cell?_spot (hcell 0 (by omega))
    subst hspot
    have := hcell i (by omega)
    rwa [Addr.add_lit] at this
theorem rw_strs {w : World} {x : Addr} {len m : Nat} {g : Nat → ByteArray} (hl : len ≤ m) (hcell : ∀ i, i < m → w.cell? (x.add i) = some (.string (g i)) ∧ (g i).size ≤ maxLen) : ∃ b off, Rw w (some x) b off len (strs g) := by
  obtain ⟨b, off, spot⟩ := x
  refine ⟨b, off, fun h0 => ?_, fun i hi => ?_⟩
  · have hspot : spot = none := by simpa [Addr.add] using World.cell?_spot (hcell 0 (by omega)).1
    rw [hspot]
  · have hspot : spot = none := by simpa [Addr.add] using World.cell?_spot (hcell 0 (by omega)).1
    subst hspot
    have := (hcell i (by omega)).1
    rwa [Addr.add_lit] at this

/-! ### THE ROW's STEP -/
set_option maxRecDepth 100000 in
theorem lifted (os : Os) (started : os.Started) (H : Type) (enc : TypeId × Value → H) :
    ReturnsInHanded {} Try.checked os 5 .any (Rows.fnLettersMatchesReverseFillModelSpec.pre6 enc Try.prog Try.f5 Rows.fnLettersMatchesReverseFillModelRow.domain false) (Rows.fnLettersMatchesReverseFillModelSpec.post enc Try.prog Try.f5 false true false false) := by
  refine returnsInHanded_of_change (C := Try.checked) own started (by kernel_rfl) Try.func5
    (ChangeSpec.witness6 (enc := enc) (C := Try.checked) false ⟨#[], #[.int .i64 0, .slice none 0 0, .slice none 0 0], []⟩ 8 (by kernel_rfl) (by kernel_rfl) (by kernel_rfl) (by kernel_rfl)) ?_
  intro W base args ds gs before hval0 hW hcnd _
  have hval : ∀ (j : Nat) t v, Try.f5.params[j]? = some t → args[j]? = some v → Value.okWide Try.prog W .any base t v := hval0
  have hW' := hW
  obtain ⟨p, q, hA0, hV, rfl, hfz, hnd⟩ := hW
  have hA : DataW.TrodAll enc Try.prog W 0 (fun _ => true) true Try.f5.params.toList args.toList ds p := hA0
  rw [Try.params5] at hA hval
  obtain ⟨v0, vs0, d0, ds0, p0, q0, hargs, rfl, rfl, h0, r0⟩ := trodAll_cons hA
  obtain ⟨v1, vs1, d1, ds1, p1, q1, rfl, rfl, rfl, h1, r1⟩ := trodAll_cons r0
  obtain ⟨v2, vs2, d2, ds2, p2, q2, rfl, rfl, rfl, h2, r2⟩ := trodAll_cons r1
  obtain ⟨rfl, rfl, rfl⟩ := trodAll_nil r2
  obtain rfl : args = #[v0, v1, v2] := by cases args; simp_all
  obtain ⟨rfl, rfl⟩ := trodVars_none hV
  obtain ⟨a0, rfl, rfl, rfl, w0⟩ := open_int Try.underlying2 (hval 0 2 v0 rfl rfl) h0
  obtain ⟨a1, len1, cap1, rfl⟩ := okWide_slice Try.underlying28 (hval 1 28 v1 rfl rfl)
  have k1 := h1
  have lt1 : ∀ x ∈ p1, x.block < W.heap.size := by obtain ⟨m, hm⟩ := k1; exact DataW.trod_lt m _ _ _ hm
  obtain ⟨b1, o1, f, w1, l1⟩ : ∃ b off f, Rw W a1 b off len1 (ints f) ∧ len1 ≤ maxLen := by
    obtain ⟨fuel, hf⟩ := h1
    rcases open_ints Try.underlying28 Try.underlying2 (by kernel_rfl) hf with ⟨hcs, _⟩ | ⟨x, l, c, zs, hcs, _, hl, hm, hz, _, hcell, hwz⟩
    · simp [Value.cells] at hcs
      obtain ⟨rfl, rfl, rfl⟩ := hcs
      exact ⟨0, 0, fun _ => 0, ⟨by omega, by omega⟩, Nat.zero_le _⟩
    · simp [Value.cells] at hcs
      obtain ⟨rfl, rfl, rfl⟩ := hcs
      obtain ⟨b, off, f, hr⟩ := rw_ints (len := len1) (by simp at hz; omega) hcell
      exact ⟨b, off, f, hr, Nat.le_trans hl hm⟩
  obtain ⟨a2, len2, cap2, rfl⟩ := okWide_slice Try.underlying29 (hval 2 29 v2 rfl rfl)
  have k2 := h2
  have lt2 : ∀ x ∈ p2, x.block < W.heap.size := by obtain ⟨m, hm⟩ := k2; exact DataW.trod_lt m _ _ _ hm
  obtain ⟨b2, o2, g, w2, l2, s2⟩ : ∃ b off g, Rw W a2 b off len2 (strs g) ∧ len2 ≤ maxLen ∧ ∀ i, i < len2 → (g i).size ≤ maxLen := by
    obtain ⟨fuel, hf⟩ := h2
    rcases Go.Deep.open_strs Try.underlying29 Try.underlying9 (by kernel_rfl) hf with ⟨hcs, _⟩ | ⟨x, l, c, m, Sx, hcs, _, hl, hm, hmm, _, hcell⟩
    · simp [Value.cells] at hcs
      obtain ⟨rfl, rfl, rfl⟩ := hcs
      exact ⟨0, 0, fun _ => ⟨#[]⟩, ⟨by omega, by omega⟩, Nat.zero_le _, by omega⟩
    · simp [Value.cells] at hcs
      obtain ⟨rfl, rfl, rfl⟩ := hcs
      have hlm : len2 ≤ m := by rw [hmm]; split <;> omega
      obtain ⟨b, off, hr⟩ := rw_strs (len := len2) hlm hcell
      exact ⟨b, off, Sx, hr, Nat.le_trans hl hm, fun i hi => (hcell i (by omega)).2⟩
  clear hA0 hval0
  refine (walk a0 a1 b1 o1 len1 cap1 f a2 b2 o2 len2 cap2 g W w1 w2 l1 l2 s2).mono fun e W' ⟨he, bel⟩ => ?_
  subst he
  exact ⟨_, rfl, _, _, _, [], _, [], hW', trodAll_mk1 (shut_bool Try.underlying4 _), (trodAll_cons_mk (shut_int Try.underlying2 w0) (trodAll_cons_mk (Below.trod laidOut (by kernel_rfl) (of_decide_eq_true (by kernel_rfl)) k1 bel lt1) (trodAll_cons_mk (Below.trod laidOut (by kernel_rfl) (of_decide_eq_true (by kernel_rfl)) k2 bel lt2) trodAll_mk0))), rfl, bel.frame _, fun h => by cases h⟩

theorem over : Rows.fnLettersMatchesReverseFillModelRow.holds Try.pinned (OpenSpec.ofChange Rows.fnLettersMatchesReverseFillModelSpec) :=
  OpenClaim.holds_of_wide 5 Try.f5 rfl rfl rfl rfl rfl rfl rfl ⟨rfl, rfl, rfl, rfl, rfl⟩ rfl rfl rfl rfl rfl (by kernel_rfl) Try.func5 (by kernel_rfl)
    (of_decide_eq_true (by kernel_rfl)) (by unfold Func.isWrapper; first | (rw [if_pos (by decide +kernel)]; kernel_rfl) | (rw [if_neg (by decide +kernel)]; exact ⟨rfl, rfl⟩))
    (fun os started H enc _ => lifted os started H enc)

/-- ████ THE STATEMENT ████ -/
theorem proved : Rows.FnLettersMatchesReverseFillModelSaid := over
#print axioms proved
end Go.Proofs.Qxb6602457a.fnLettersMatchesReverseFillModel
