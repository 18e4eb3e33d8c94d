/-
  The small ones: zzBytes, zzTableBytes, the clones.
-/
import Derived.Test.Qxb6602457aWalkA
import Derived.WalkKit
import Derived.Deep.QuietTactic
import Derived.BigQuiet
import Derived.Deep.LoopGhost
import Derived.Deep.Light
import Derived.Deep.OwnRows
import Derived.Lib.SliceRun
namespace Go.Proofs.Qxb6602457a
open Go.RowKit

/-- A slice of n cells that read V. -/
structure Rw (w : World) (a : Option Addr) (b off n : Nat) (V : Nat → Value) : Prop where
  addr : 0 < n → a = some ⟨b, off, none⟩
  cell : ∀ i, i < n → w.cell? ⟨b, off + i, none⟩ = some (V i)

theorem Rw.lt {w : World} {a : Option Addr} {b off n : Nat} {V : Nat → Value} (h : Rw w a b off n V) (hn : 0 < n) : b < w.heap.size :=
  World.block_lt_of_cell? _ _ (h.cell 0 hn)
theorem Rw.below {w w' : World} {a : Option Addr} {b off n B : Nat} {V : Nat → Value} (h : Rw w a b off n V) (hb : Below B w w') (hB : 0 < n → b < B) : Rw w' a b off n V :=
  ⟨h.addr, fun i hi => by rw [hb.cell (p := ⟨b, off + i, none⟩) (hB (by omega))]; exact h.cell i hi⟩

def ints (f : Nat → Int) (i : Nat) : Value := .int .i64 (f i)
def strs (g : Nat → ByteArray) (i : Nat) : Value := .string (g i)

/-- The sum of the first k lengths. -/
def sumL (g : Nat → ByteArray) : Nat → Nat
  | 0 => 0
  | k + 1 => sumL g k + (g k).size

/-- What zzBytes answers. -/
def BytesP (g : Nat → ByteArray) (n : Nat) (e : Ending) : Prop := ∃ r : Bool, e = .returned (.bool r) ∧ (r = true → ∀ i, i < n → (g i).size ≤ 1048576)
set_option maxHeartbeats 1000000 in
theorem zzBytes_any (z : Int) (a1 : Option Addr) (n1 c1 : Nat) (a2 : Option Addr) (b2 o2 n2 c2 : Nat) (g : Nat → ByteArray) (w : World) (h2 : Rw w a2 b2 o2 n2 (strs g)) (hn1 : n1 ≤ 9223372036854775807) (hn2 : n2 ≤ 9223372036854775807) (hg : ∀ i, i < n2 → (g i).size ≤ 9223372036854775807) :
    Calls Try.prog 13 #[.int .i64 z, .slice a1 n1 c1, .slice a2 n2 c2] w fun e w' => w' = w ∧ BytesP g n2 e := by
  by_cases h1 : n1 > 1048576
  · have hz : (n1 : Int) > 1048576 := by omega
    go_enter Try.func13, Try.ntmps13
    go_wp2_with fail
    go_ret
    exact ⟨rfl, false, rfl, by simp⟩
  have hz1 : ¬ (n1 : Int) > 1048576 := by omega
  by_cases h3 : n2 > 1048576
  · have hz : (n2 : Int) > 1048576 := by omega
    go_enter Try.func13, Try.ntmps13
    go_wp2_with fail
    go_ret
    exact ⟨rfl, false, rfl, by simp⟩
  have hz2 : ¬ (n2 : Int) > 1048576 := by omega
  by_cases h4 : n1 + n2 > 1048576
  · have hz : (n1 : Int) + (n2 : Int) > 1048576 := by omega
    go_enter Try.func13, Try.ntmps13
    go_wp2_with fail
    go_ret
    exact ⟨rfl, false, rfl, by simp⟩
  have hz3 : ¬ (n1 : Int) + (n2 : Int) > 1048576 := by omega
  have HG : Hid (∀ i, i < n2 → (g i).size ≤ 9223372036854775807) := hg
  clear hg
  go_enter Try.func13, Try.ntmps13
  go_wp2_with fail
  go_loopg [7, 8] n2 (fun gm s7 s8 wr => wr = w ∧ ∃ k m : Nat, s8 = .int .i64 k ∧ gm = n2 - k ∧ k ≤ n2 ∧ s7 = .int .i64 m ∧ m ≤ 1048576 ∧ ∀ i, i < k → (g i).size ≤ 1048576)
  case atStart => exact ⟨rfl, 0, n1 + n2, rfl, rfl, Nat.zero_le _, by go_num, by omega, fun i hi => by omega⟩
  case round =>
    obtain ⟨rfl, k, m, rfl, rfl, hk, rfl, hm, hall⟩ := hrel
    have HALL : Hid (∀ i, i < k → (g i).size ≤ 1048576) := hall
    clear hall
    by_cases hlt : k < n2
    · have hkz : (k : Int) < (n2 : Int) := by omega
      obtain rfl := h2.addr (by omega)
      have hc := h2.cell k hlt
      have hsz := HG.out k hlt
      unfold strs at hc
      obtain ⟨s, hs⟩ : ∃ s, s = g k := ⟨_, rfl⟩
      rw [← hs] at hc hsz
      have HS : Hid (s = g k) := hs
      clear hs
      by_cases hb : s.size > 1048576
      · have hbz : (s.size : Int) > 1048576 := by omega
        go_wp2_with fail
        go_ret
        exact ⟨rfl, false, rfl, by simp⟩
      have hbz : ¬ (s.size : Int) > 1048576 := by omega
      by_cases hb2 : m + s.size > 1048576
      · have hbz2 : (m : Int) + (s.size : Int) > 1048576 := by omega
        go_wp2_with fail
        go_ret
        exact ⟨rfl, false, rfl, by simp⟩
      have hbz2 : ¬ (m : Int) + (s.size : Int) > 1048576 := by omega
      go_wp2_with fail
      go_roundg (n2 - (k + 1))
      case measure => go_light; omega
      case rel => go_light; exact ⟨rfl, k + 1, m + s.size, by go_num, rfl, by omega, by go_num, by omega, fun i hi => by
        by_cases e : i = k
        · subst e; rw [← HS.out]; omega
        · exact HALL.out i (by omega)⟩
    · have hkz : ¬ (k : Int) < (n2 : Int) := by omega
      go_wp2_with fail
      go_ret
      exact ⟨rfl, true, rfl, fun _ i hi => HALL.out i (by omega)⟩

/-- What zzTableBytes answers. -/
def TabP (g : Nat → ByteArray) (n : Nat) (e : Ending) : Prop := ∃ m : Nat, e = .returned (.int .i64 m) ∧ (m ≤ 1048576 → sumL g n ≤ 1048576)
set_option maxHeartbeats 1000000 in
theorem tableBytes_any (a1 : Option Addr) (n1 c1 : Nat) (a2 : Option Addr) (b2 o2 n2 c2 : Nat) (g : Nat → ByteArray) (w : World) (h2 : Rw w a2 b2 o2 n2 (strs g)) (hn1 : n1 ≤ 65536) (hn2 : n2 ≤ 65536) (hg : ∀ i, i < n2 → (g i).size ≤ 1048576) :
    Calls Try.prog 14 #[.slice a1 n1 c1, .slice a2 n2 c2] w fun e w' => w' = w ∧ TabP g n2 e := by
  have HG : Hid (∀ i, i < n2 → (g i).size ≤ 1048576) := hg
  clear hg
  go_enter Try.func14, Try.ntmps14
  go_wp2_with fail
  go_loopg [5, 6] n2 (fun gm s5 s6 wr => wr = w ∧ ∃ k m : Nat, s6 = .int .i64 k ∧ gm = n2 - k ∧ k ≤ n2 ∧ s5 = .int .i64 m ∧ m ≤ 140737488355328 + 9000000 ∧ sumL g k ≤ m)
  case atStart => exact ⟨rfl, 0, 8 * n1 + 16 * n2, rfl, rfl, Nat.zero_le _, by go_num, by omega, Nat.zero_le _⟩
  case round =>
    obtain ⟨rfl, k, m, rfl, rfl, hk, rfl, hm, hsum⟩ := hrel
    have HS : Hid (sumL g k ≤ m) := hsum
    clear hsum
    by_cases hlt : k < n2
    · have hkz : (k : Int) < (n2 : Int) := by omega
      obtain rfl := h2.addr (by omega)
      have hc := h2.cell k hlt
      have hsz := HG.out k hlt
      unfold strs at hc
      have hs1 : sumL g (k + 1) = sumL g k + (g k).size := rfl
      have HS1 : Hid (sumL g (k + 1) = sumL g k + (g k).size) := hs1
      clear hs1
      generalize g k = s at *
      by_cases hb : m > 1048576
      · have hbz : (m : Int) > 1048576 := by omega
        go_wp2_with fail
        go_ret
        exact ⟨rfl, m, rfl, by omega⟩
      have hbz : ¬ (m : Int) > 1048576 := by omega
      go_wp2_with fail
      go_roundg (n2 - (k + 1))
      case measure => go_light; omega
      case rel => go_light; exact ⟨rfl, k + 1, m + s.size, by go_num, rfl, by omega, by go_num, by omega, by rw [HS1.out]; have := HS.out; omega⟩
    · have hkz : ¬ (k : Int) < (n2 : Int) := by omega
      obtain rfl : k = n2 := by omega
      go_wp2_with fail
      go_ret
      exact ⟨rfl, m, rfl, fun h => by have := HS.out; omega⟩

theorem since_below {B : Nat} {a w : World} (h : a.Since B w) : Below B a w := ⟨h.os, h.tape, h.output, h.size, h.block⟩

/-- What a clone leaves. -/
def CloneP (V : Nat → Value) (n : Nat) (w : World) (e : Ending) (w' : World) : Prop :=
  Below w.heap.size w w' ∧ ∃ (a : Option Addr) (b off c : Nat), e = .returned (.slice a n c) ∧ Rw w' a b off n V
theorem info2 : (Try.prog.info? 2).map (fun i => (i.zero, i.size, i.bytes)) = some (some (.int .i64 0), 1, 8) := by kernel_rfl
theorem info9 : (Try.prog.info? 9).map (fun i => (i.zero, i.size, i.bytes)) = some (some (.string ⟨#[]⟩), 1, 16) := by kernel_rfl

set_option maxHeartbeats 1000000 in
theorem cloneInts_any (a : Option Addr) (b off n c : Nat) (f : Nat → Int) (w : World) (h : Rw w a b off n (ints f)) (hn : n ≤ 65536) :
    Calls Try.prog 15 #[.slice a n c] w fun e w' => CloneP (ints f) n w e w' := by
  have q28 : ∀ (w : World) (a : Option Addr) (n c n' c' : Nat), (binOp .eql 28 (.slice a n c) (.slice none n' c')).run Try.prog w = .ok (.bool a.isNone) w := fun w a n c n' c' => Lib.run_eql_slice_nil w _ _ a n c n' c' Try.underlying28
  cases ha : a with
  | none =>
    have hn0 : n = 0 := by
      rcases Nat.eq_zero_or_pos n with h0 | h0
      · exact h0
      · have := h.addr h0; rw [ha] at this; cases this
    subst hn0
    go_enter Try.func15, Try.ntmps15
    go_wp2
    go_ret
    exact ⟨Below.refl _ _, none, b, off, 0, rfl, by omega, by omega⟩
  | some x =>
    have HA : Hid (a = some x) := ha
    clear ha
    have hmk := run_make_row' (P := Try.prog) 28 2 (.int .i64 0) 8 Try.underlying28 info2 rfl .i64 .i64 n (by omega) (by omega)
    go_enter Try.func15, Try.ntmps15
    go_wp2
    go_loopg [4] n (fun gm i wr => ∃ k : Nat, k ≤ n ∧ gm = n - k ∧ i = .int .i64 k ∧ w.Since w.heap.size wr ∧ wr.rowIs w.heap.size 2 n (fun i => if i < k then ints f i else .int .i64 0))
    case atStart => exact ⟨0, Nat.zero_le _, rfl, rfl, (World.Since.refl _ _).alloc (Nat.le_refl _) _, (World.rowIs_made w _ n 2).congr (fun i _ => by simp)⟩
    case round =>
      obtain ⟨k, hk, rfl, rfl, hS, hrow⟩ := hrel
      clear hmk
      by_cases hlt : k < n
      · have hxx : x = ⟨b, off, none⟩ := by have := HA.out; rw [h.addr (by omega)] at this; exact (Option.some.inj this).symm
        subst hxx
        have hb : b < w.heap.size := h.lt (by omega)
        obtain ⟨y, hy⟩ : ∃ y, y = f k := ⟨_, rfl⟩
        have g0 : wr.cell? ⟨b, off + k, none⟩ = some (.int .i64 y) := by rw [hS.cell (a := ⟨b, off + k, none⟩) hb, hy]; exact h.cell k hlt
        have g1 : wr.cell? ⟨w.heap.size, k, none⟩ = some (.int .i64 0) := by rw [hrow.cell hlt]; simp
        have g2 : wr.frozen? ⟨w.heap.size, k, none⟩ = false := hrow.frozen k
        have HY : Hid (y = f k) := hy
        clear hy
        have hkz : (k : Int) < (n : Int) := by omega
        go_wp2
        go_roundg (n - (k + 1))
        case measure => go_light; omega
        case rel =>
          go_light
          refine ⟨k + 1, by omega, rfl, by go_num, hS.setCell (Nat.le_refl _) _, (hrow.set k _).congr (fun i _ => ?_)⟩
          by_cases e : i = k
          · subst e; simp [ints]; exact HY.out
          · rw [if_neg e]
            by_cases h : i < k
            · rw [if_pos h, if_pos (by omega)]
            · rw [if_neg h, if_neg (by omega)]
      · have hkz : ¬ (k : Int) < (n : Int) := by omega
        obtain rfl : k = n := by omega
        go_wp2
        go_ret
        refine ⟨since_below hS, some ⟨w.heap.size, 0, none⟩, w.heap.size, 0, k, rfl, fun _ => rfl, fun i hi => ?_⟩
        rw [Nat.zero_add, hrow.cell hi, if_pos hi]

set_option maxHeartbeats 1000000 in
theorem cloneStrs_any (a : Option Addr) (b off n c : Nat) (g : Nat → ByteArray) (w : World) (h : Rw w a b off n (strs g)) (hn : n ≤ 65536) :
    Calls Try.prog 16 #[.slice a n c] w fun e w' => CloneP (strs g) n w e w' := by
  have q29 : ∀ (w : World) (a : Option Addr) (n c n' c' : Nat), (binOp .eql 29 (.slice a n c) (.slice none n' c')).run Try.prog w = .ok (.bool a.isNone) w := fun w a n c n' c' => Lib.run_eql_slice_nil w _ _ a n c n' c' Try.underlying29
  cases ha : a with
  | none =>
    have hn0 : n = 0 := by
      rcases Nat.eq_zero_or_pos n with h0 | h0
      · exact h0
      · have := h.addr h0; rw [ha] at this; cases this
    subst hn0
    go_enter Try.func16, Try.ntmps16
    go_wp2
    go_ret
    exact ⟨Below.refl _ _, none, b, off, 0, rfl, by omega, by omega⟩
  | some x =>
    have HA : Hid (a = some x) := ha
    clear ha
    have hmk := run_make_row' (P := Try.prog) 29 9 (.string ⟨#[]⟩) 16 Try.underlying29 info9 rfl .i64 .i64 n (by omega) (by omega)
    go_enter Try.func16, Try.ntmps16
    go_wp2
    go_loopg [4] n (fun gm i wr => ∃ k : Nat, k ≤ n ∧ gm = n - k ∧ i = .int .i64 k ∧ w.Since w.heap.size wr ∧ wr.rowIs w.heap.size 9 n (fun i => if i < k then strs g i else .string ⟨#[]⟩))
    case atStart => exact ⟨0, Nat.zero_le _, rfl, rfl, (World.Since.refl _ _).alloc (Nat.le_refl _) _, (World.rowIs_made w _ n 9).congr (fun i _ => by simp)⟩
    case round =>
      obtain ⟨k, hk, rfl, rfl, hS, hrow⟩ := hrel
      clear hmk
      by_cases hlt : k < n
      · have hxx : x = ⟨b, off, none⟩ := by have := HA.out; rw [h.addr (by omega)] at this; exact (Option.some.inj this).symm
        subst hxx
        have hb : b < w.heap.size := h.lt (by omega)
        obtain ⟨y, hy⟩ : ∃ y, y = g k := ⟨_, rfl⟩
        have g0 : wr.cell? ⟨b, off + k, none⟩ = some (.string y) := by rw [hS.cell (a := ⟨b, off + k, none⟩) hb, hy]; exact h.cell k hlt
        have g1 : wr.cell? ⟨w.heap.size, k, none⟩ = some (.string ⟨#[]⟩) := by rw [hrow.cell hlt]; simp
        have g2 : wr.frozen? ⟨w.heap.size, k, none⟩ = false := hrow.frozen k
        have HY : Hid (y = g k) := hy
        clear hy
        have hkz : (k : Int) < (n : Int) := by omega
        go_wp2
        go_roundg (n - (k + 1))
        case measure => go_light; omega
        case rel =>
          go_light
          refine ⟨k + 1, by omega, rfl, by go_num, hS.setCell (Nat.le_refl _) _, (hrow.set k _).congr (fun i _ => ?_)⟩
          by_cases e : i = k
          · subst e; simp [strs]; exact HY.out
          · rw [if_neg e]
            by_cases h : i < k
            · rw [if_pos h, if_pos (by omega)]
            · rw [if_neg h, if_neg (by omega)]
      · have hkz : ¬ (k : Int) < (n : Int) := by omega
        obtain rfl : k = n := by omega
        go_wp2
        go_ret
        refine ⟨since_below hS, some ⟨w.heap.size, 0, none⟩, w.heap.size, 0, k, rfl, fun _ => rfl, fun i hi => ?_⟩
        rw [Nat.zero_add, hrow.cell hi, if_pos hi]

end Go.Proofs.Qxb6602457a
