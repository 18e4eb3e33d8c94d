/-
  The two kinds of grids among the arguments, opened.
-/
import Derived.Test.Qxb6602192aWalkD
import Derived.ProofKit
import Derived.Deep.Grids
import Derived.Deep.Matrix
namespace Go.Proofs.Qxb6602192a
open Go.ChangeShapes Go.WideShapes Go.ChangeAt Go.RowKit Go.Deep

theorem Try.own : ownKnob Try.prog.godebug = none := by kernel_rfl
theorem Try.laidOut : laidOutB Try.prog = true := by kernel_rfl
theorem Try.cells44 : Try.prog.cellsOf 44 = 1 := by kernel_rfl
theorem Try.cells4 : Try.prog.cellsOf 4 = 1 := by kernel_rfl
theorem Try.cells27 : Try.prog.cellsOf 27 = 1 := by kernel_rfl
theorem Try.cells22 : Try.prog.cellsOf 22 = 1 := by kernel_rfl

/-- From what the laws give of a slice of slices to 'Grid'. -/
theorem grid_of {W : World} {a : Addr} {len cap : Nat} {A : Nat → Option Addr} {L C : Nat → Nat} {V : Nat → Nat → Value} (hl : len ≤ cap)
    (h : ∀ r, r < cap → W.cell? (a.add r) = some (.slice (A r) (L r) (C r)) ∧ L r ≤ C r ∧ C r ≤ maxLen ∧ (A r = none → C r = 0) ∧ ∀ a', A r = some a' → ∀ c, c < C r → W.cell? (a'.add c) = some (V r c)) :
    Grid W (some a) a.block a.off len A L C (fun r => ((A r).getD default).block) (fun r => ((A r).getD default).off) V ∧ ∀ r, r < len → (A r).isSome = false → L r = 0 := by
  obtain ⟨gb, go, gs⟩ := a
  have hgs : 0 < len → gs = none := fun h0 => by simpa [Addr.add] using World.cell?_spot (h 0 (by omega)).1
  refine ⟨⟨fun h0 => by rw [hgs h0], fun r hr => ?_, fun r hr => ?_, fun r hr c hc => ?_⟩, fun r hr hs => ?_⟩
  · obtain rfl := hgs (by omega)
    rw [← add_plain]; exact (h r (by omega)).1
  · obtain ⟨_, h1, h2, _⟩ := h r (by omega)
    unfold maxLen at h2; omega
  · obtain ⟨_, h1, _, h3, h4⟩ := h r (by omega)
    cases hA : A r with
    | none => have := h3 hA; omega
    | some a' =>
      obtain ⟨ab, ao, asp⟩ := a'
      have hcell := h4 _ hA
      have has : asp = none := by simpa [Addr.add] using World.cell?_spot (hcell 0 (by omega))
      subst has
      exact ⟨rfl, by have := hcell c (by omega); rwa [add_plain] at this⟩
  · obtain ⟨_, h1, _, h3, _⟩ := h r (by omega)
    have := h3 (by simpa using hs)
    omega

theorem grid_nil (W : World) (V : Nat → Nat → Value) : Grid W none 0 0 0 (fun _ => none) (fun _ => 0) (fun _ => 0) (fun _ => 0) (fun _ => 0) V :=
  ⟨by omega, by omega, by omega, by omega⟩

section
variable {H : Type} {enc : TypeId × Value → H} {W : World} {base : Nat} {held : Bool}

theorem open_bgrid {fuel : Nat} {a : Option Addr} {len cap : Nat} {x : DataW H × List MemPlace} (h : DataW.trod enc Try.prog W base (fun _ => true) held fuel 36 [.slice a len cap] = some x) :
    ∃ (gb go : Nat) (A : Nat → Option Addr) (L C RB RO : Nat → Nat) (B : Nat → Nat → Bool), Grid W a gb go len A L C RB RO (fun r c => .bool (B r c)) ∧ (∀ r, r < len → (A r).isSome = false → L r = 0) ∧ len ≤ 9223372036854775807 := by
  rcases open_bool_rows Try.underlying36 Try.underlying44 Try.underlying4 Try.cells44 Try.cells4 h with ⟨hcs, _⟩ | ⟨a', len', cap', A, L, C, B, hcs, _, hl, hm, _, hrows⟩
  · simp at hcs
    obtain ⟨rfl, rfl, rfl⟩ := hcs
    exact ⟨0, 0, _, _, _, _, _, fun _ _ => false, grid_nil W _, by omega, by omega⟩
  · simp at hcs
    obtain ⟨rfl, rfl, rfl⟩ := hcs
    obtain ⟨g1, g2⟩ := grid_of (W := W) (V := fun r c => .bool (B r c)) hl (fun r hr => by
      obtain ⟨h1, h2, h3, h4, h5⟩ := hrows r hr
      exact ⟨h1, h2, h3, h4, fun a' ha => (h5 a' ha).2⟩)
    exact ⟨_, _, A, L, C, _, _, B, g1, g2, by unfold maxLen at hm; omega⟩

theorem open_ugrid {fuel : Nat} {a : Option Addr} {len cap : Nat} {x : DataW H × List MemPlace} (h : DataW.trod enc Try.prog W base (fun _ => true) held fuel 37 [.slice a len cap] = some x) :
    ∃ (gb go : Nat) (A : Nat → Option Addr) (L C RB RO : Nat → Nat) (B : Nat → Nat → Int), Grid W a gb go len A L C RB RO (fun r c => .int .u64 (B r c)) ∧ (∀ r, r < len → (A r).isSome = false → L r = 0) ∧ len ≤ 9223372036854775807 := by
  rcases open_int_rows Try.underlying37 Try.underlying27 Try.underlying22 Try.cells27 Try.cells22 h with ⟨hcs, _⟩ | ⟨a', len', cap', A, L, C, Z, hcs, _, hl, hm, _, hrows⟩
  · simp at hcs
    obtain ⟨rfl, rfl, rfl⟩ := hcs
    exact ⟨0, 0, _, _, _, _, _, fun _ _ => 0, grid_nil W _, by omega, by omega⟩
  · simp at hcs
    obtain ⟨rfl, rfl, rfl⟩ := hcs
    obtain ⟨g1, g2⟩ := grid_of (W := W) (V := fun r c => .int .u64 ((Z r).getD c 0)) hl (fun r hr => by
      obtain ⟨h1, h2, h3, _, _, h4, h5⟩ := hrows r hr
      exact ⟨h1, h2, h3, h4, fun a' ha => (h5 a' ha).2⟩)
    exact ⟨_, _, A, L, C, _, _, _, g1, g2, by unfold maxLen at hm; omega⟩
end
end Go.Proofs.Qxb6602192a
