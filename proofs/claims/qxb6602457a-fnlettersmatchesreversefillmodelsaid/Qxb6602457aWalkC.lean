/-
  letters and ZZLetters.
-/
import Derived.Test.Qxb6602457aWalkB
import Derived.BigRegion
namespace Go.Proofs.Qxb6602457a
open Go.RowKit

/-- The table in block tb. -/
structure Tab (w : World) (a : Option Addr) (tb n : Nat) (f : Nat → Int) (g : Nat → ByteArray) : Prop where
  addr : 0 < n → a = some ⟨tb, 0, none⟩
  bit : ∀ i, i < n → w.cell? ⟨tb, i * 2, none⟩ = some (.int .i64 (f i))
  name : ∀ i, i < n → w.cell? ⟨tb, i * 2 + 1, none⟩ = some (.string (g i))

theorem Tab.below {w w' : World} {a : Option Addr} {tb n B : Nat} {f : Nat → Int} {g : Nat → ByteArray} (h : Tab w a tb n f g) (hb : Below B w w') (hB : 0 < n → tb < B) : Tab w' a tb n f g :=
  ⟨h.addr, fun i hi => by rw [hb.cell (p := ⟨tb, i * 2, none⟩) (hB (by omega))]; exact h.bit i hi, fun i hi => by rw [hb.cell (p := ⟨tb, i * 2 + 1, none⟩) (hB (by omega))]; exact h.name i hi⟩
theorem Tab.lt {w : World} {a : Option Addr} {tb n : Nat} {f : Nat → Int} {g : Nat → ByteArray} (h : Tab w a tb n f g) (hn : 0 < n) : tb < w.heap.size :=
  World.block_lt_of_cell? _ _ (h.bit 0 hn)

theorem isBuilder_alloc {B b : Nat} {bs : List Value} {w : World} (h : Lib.IsBuilder 42 5 B b bs w) (o : Obj) : Lib.IsBuilder 42 5 B b bs (w.alloc o) := by
  have key : ∀ p, Lib.BuilderAt 42 5 B b p bs w → Lib.BuilderAt 42 5 B b p bs (w.alloc o) := fun p h => by
    have hlt := h.lt
    obtain ⟨hB, v, hb, hown, hne⟩ := h
    exact ⟨hB, v, by rw [Lib.alloc_old w o b hlt]; exact hb, hown.alloc o, hne⟩
  rcases h with h | h
  · exact .inl (key _ h)
  · exact .inr (key _ h)

/-- The names that are chosen among the first k. -/
def catL (S : Nat → Bool) (g : Nat → ByteArray) : Nat → List UInt8
  | 0 => []
  | k + 1 => catL S g k ++ (if S k = true then (g k).data.toList else [])

theorem catL_le (S : Nat → Bool) (g : Nat → ByteArray) (k : Nat) : (catL S g k).length ≤ sumL g k := by
  induction k with
  | zero => exact Nat.le_refl _
  | succ k ih =>
    simp only [catL, sumL, List.length_append]
    split
    · have : (g k).data.toList.length = (g k).size := Array.length_toList
      omega
    · simp; omega
theorem sumL_mono (g : Nat → ByteArray) {k n : Nat} (h : k ≤ n) : sumL g k ≤ sumL g n := by
  induction n with
  | zero => have : k = 0 := by omega
            subst this; exact Nat.le_refl _
  | succ n ih =>
    by_cases e : k = n + 1
    · subst e; exact Nat.le_refl _
    · have := ih (by omega); simp only [sumL]; omega

/-- Is name i chosen by z? -/
def sel (z : Int) (f : Nat → Int) (i : Nat) : Bool := bits BinOp.and IntKind.i64 z (f i) != 0

theorem catL_take (S : Nat → Bool) (g : Nat → ByteArray) {k : Nat} (h : S k = true) : Lib.byteCells (catL S g k) ++ Lib.strCells (g k) = Lib.byteCells (catL S g (k + 1)) := by
  simp only [catL, h, if_true]
  rw [Lib.strCells_eq, ← Lib.byteCells_append]
theorem catL_skip (S : Nat → Bool) (g : Nat → ByteArray) {k : Nat} (h : S k = false) : catL S g (k + 1) = catL S g k := by
  simp [catL, h]

set_option maxHeartbeats 1000000 in
set_option maxRecDepth 100000 in
theorem letters_any (z : Int) (a : Option Addr) (tb n c : Nat) (f : Nat → Int) (g : Nat → ByteArray) (w : World) (h : Tab w a tb n f g) (hn : n ≤ 65536) (hsum : sumL g n ≤ 1048576) :
    Calls Try.prog 22 #[.int .i64 z, .slice a n c] w fun e w' => e = .returned (.string ⟨(catL (sel z f) g n).toArray⟩) ∧ Below w.heap.size w w' := by
  have HSUM : Hid (sumL g n ≤ 1048576) := hsum
  clear hsum
  go_enter Try.func22, Try.ntmps22
  go_wp2_with fail
  go_loopg [10] n (fun gm s10 wr => ∃ k : Nat, s10 = .int .i64 k ∧ gm = n - k ∧ k ≤ n ∧ Lib.IsBuilder 42 5 w.heap.size w.heap.size (Lib.byteCells (catL (sel z f) g k)) wr ∧ Below w.heap.size w wr)
  case atStart => exact ⟨0, rfl, rfl, Nat.zero_le _, Lib.fresh_isBuilder 42 5 w, (Below.refl _ _).alloc (Nat.le_refl _) _⟩
  case round =>
    obtain ⟨k, rfl, rfl, hk, hB, hbr⟩ := hrel
    have HB : Hid (Lib.IsBuilder 42 5 w.heap.size w.heap.size (Lib.byteCells (catL (sel z f) g k)) wr) := hB
    clear hB
    by_cases hlt : k < n
    · have hkz : (k : Int) < (n : Int) := by omega
      obtain rfl := h.addr (by omega)
      have htb : tb < w.heap.size := h.lt (by omega)
      have hr := h.below hbr (fun _ => htb)
      have c0 := hr.bit k hlt
      have c1 := hr.name k hlt
      have hlen : (catL (sel z f) g k).length + (g k).size ≤ 1048576 := by
        have h1 := catL_le (sel z f) g k
        have h2 : sumL g (k + 1) ≤ sumL g n := sumL_mono g hlt
        have h3 : sumL g (k + 1) = sumL g k + (g k).size := rfl
        have := HSUM.out
        omega
      have HLEN : Hid ((catL (sel z f) g k).length + (g k).size ≤ 1048576) := hlen
      clear hlen hr
      cases hsel : sel z f k with
      | true =>
        have hsel' : (bits BinOp.and IntKind.i64 z (f k) != 0) = true := hsel
        have HSEL : Hid (sel z f k = true) := hsel
        clear hsel
        go_wp2_with fail
        refine (writeString_any w.heap.size w.heap.size _ (g k) _ (isBuilder_alloc HB.out _) (by rw [Lib.byteCells_length]; have := HLEN.out; omega) (by have := hbr.size; simp; omega)).mono ?_
        rintro e w1 ⟨rfl, hB1, hb1⟩
        rw [catL_take _ _ HSEL.out] at hB1
        go_wp2_with fail
        go_roundg (n - (k + 1))
        case measure => go_light; omega
        case rel => go_light; exact ⟨k + 1, by go_num, rfl, by omega, .inr hB1, (hbr.alloc hbr.size _).trans hb1⟩
      | false =>
        have hsel' : (bits BinOp.and IntKind.i64 z (f k) != 0) = false := hsel
        have HSEL : Hid (sel z f k = false) := hsel
        clear hsel
        go_wp2_with fail
        go_roundg (n - (k + 1))
        case measure => go_light; omega
        case rel => go_light; exact ⟨k + 1, by go_num, rfl, by omega, by rw [catL_skip _ _ HSEL.out]; exact isBuilder_alloc HB.out _, hbr.alloc hbr.size _⟩
    · have hkz : ¬ (k : Int) < (n : Int) := by omega
      obtain rfl : k = n := by omega
      go_wp2_with fail
      refine (Try.Builder_String_any w.heap.size w.heap.size _ _ HB.out hbr.size).mono ?_
      rintro e w1 ⟨rfl, hb1⟩
      go_wp2_with fail
      go_ret
      exact ⟨rfl, hbr.trans hb1⟩

theorem info38 : (Try.prog.info? 38).map (fun i => (i.zero, i.size, i.bytes)) = some (some (.agg #[.int .i64 0, .string ⟨#[]⟩]), 2, 24) := by kernel_rfl

/-- 'make([]bitName, n)'. -/
theorem make_tab (n : Nat) (hn : n ≤ 65536) (w : World) :
    (Instr.makeSlice 36 (.int .i64 (n : Int)) (.int .i64 (n : Int))).run Try.prog w = .ok (.slice (some ⟨w.heap.size, 0, none⟩) n n) (w.alloc (.cells (madeCells #[.int .i64 0, .string ⟨#[]⟩] (n * 2)) 38)) := by
  obtain ⟨i, hi, hz, hs, hb⟩ := info_parts info38
  have hr := run_make (P := Try.prog) w 36 38 i _ Try.underlying36 hi hz .i64 .i64 n n (by omega) (Int.le_refl _) (by rw [hb]; omega) (by omega)
  simp only [Int.toNat_natCast, hs] at hr
  exact hr

def slotV (f : Nat → Int) (g : Nat → ByteArray) (j : Nat) : Value := if j % 2 = 0 then .int .i64 (f (j / 2)) else .string (g (j / 2))
def slotZ (j : Nat) : Value := if j % 2 = 0 then .int .i64 0 else .string ⟨#[]⟩
theorem rowIs_made2 (w : World) (n : Nat) : (w.alloc (.cells (madeCells #[.int .i64 0, .string ⟨#[]⟩] (n * 2)) 38)).rowIs w.heap.size 38 (n * 2) slotZ :=
  ⟨_, Deep.blk_alloc_new _ _, size_madeCells _ _, fun i hi => by
    have : i % 2 = 0 ∨ i % 2 = 1 := by omega
    rcases this with h | h <;> simp [madeCells, hi, slotZ, h]⟩

set_option maxHeartbeats 1000000 in
set_option maxRecDepth 100000 in
theorem zzLetters_any (z : Int) (a1 : Option Addr) (b1 o1 c1 : Nat) (a2 : Option Addr) (b2 o2 c2 n : Nat) (f : Nat → Int) (g : Nat → ByteArray) (w : World) (h1 : Rw w a1 b1 o1 n (ints f)) (h2 : Rw w a2 b2 o2 n (strs g)) (hn : n ≤ 65536) (hsum : sumL g n ≤ 1048576) :
    Calls Try.prog 17 #[.int .i64 z, .slice a1 n c1, .slice a2 n c2] w fun e w' => e = .returned (.string ⟨(catL (sel z f) g n).toArray⟩) ∧ Below w.heap.size w w' := by
  have HSUM : Hid (sumL g n ≤ 1048576) := hsum
  clear hsum
  have hmk := make_tab n hn
  go_enter Try.func17, Try.ntmps17
  go_wp2_with fail
  clear hmk
  go_loopg [8] n (fun gm s8 wr => ∃ k : Nat, s8 = .int .i64 k ∧ gm = n - k ∧ k ≤ n ∧ w.Since w.heap.size wr ∧ wr.rowIs w.heap.size 38 (n * 2) (fun j => if j < k * 2 then slotV f g j else slotZ j))
  case atStart => exact ⟨0, rfl, rfl, Nat.zero_le _, (World.Since.refl _ _).alloc (Nat.le_refl _) _, (rowIs_made2 w n).congr (fun i _ => by simp)⟩
  case round =>
    obtain ⟨k, rfl, rfl, hk, hS, hrow⟩ := hrel
    by_cases hlt : k < n
    · have hkz : (k : Int) < (n : Int) := by omega
      obtain rfl := h1.addr (by omega)
      obtain rfl := h2.addr (by omega)
      have g1 : wr.cell? ⟨b1, o1 + k, none⟩ = some (.int .i64 (f k)) := by rw [hS.cell (a := ⟨b1, o1 + k, none⟩) (h1.lt (by omega))]; exact h1.cell k hlt
      have g2 : wr.cell? ⟨b2, o2 + k, none⟩ = some (.string (g k)) := by rw [hS.cell (a := ⟨b2, o2 + k, none⟩) (h2.lt (by omega))]; exact h2.cell k hlt
      have f0 : wr.cell? ⟨w.heap.size, k * 2, none⟩ = some (.int .i64 0) := by rw [hrow.cell (by omega), if_neg (by omega)]; simp [slotZ]
      have f1 : wr.cell? ⟨w.heap.size, k * 2 + 1, none⟩ = some (.string ⟨#[]⟩) := by rw [hrow.cell (by omega), if_neg (by omega)]; simp [slotZ]
      have f2 : ∀ j, wr.frozen? ⟨w.heap.size, j, none⟩ = false := fun j => hrow.frozen j
      have HS := hS
      have hrow2 : ((wr.setCell ⟨w.heap.size, k * 2, none⟩ (.int .i64 (f k))).setCell ⟨w.heap.size, k * 2 + 1, none⟩ (.string (g k))).rowIs w.heap.size 38 (n * 2) (fun j => if j < (k + 1) * 2 then slotV f g j else slotZ j) := by
        refine ((hrow.set (k * 2) _).set (k * 2 + 1) _).congr (fun i hi => ?_)
        by_cases e1 : i = k * 2 + 1
        · subst e1; rw [if_pos rfl, if_pos (by omega)]; simp [slotV]; congr 1; omega
        · rw [if_neg e1]
          by_cases e2 : i = k * 2
          · subst e2; rw [if_pos rfl, if_pos (by omega)]; simp [slotV]
          · rw [if_neg e2]
            by_cases e3 : i < k * 2
            · rw [if_pos e3, if_pos (by omega)]
            · rw [if_neg e3, if_neg (by omega)]
      have HR : Hid _ := hrow2
      clear hrow hrow2
      go_wp2_with fail
      go_big_region
      go_wp2_with fail
      go_roundg (n - (k + 1))
      case measure => go_light; omega
      case rel => go_light; exact ⟨k + 1, by go_num, rfl, by omega, ((hS.setCell (a := ⟨w.heap.size, k * 2, none⟩) (Nat.le_refl _) _).setCell (a := ⟨w.heap.size, k * 2 + 1, none⟩) (Nat.le_refl _) _).drew, HR.out⟩
    · have hkz : ¬ (k : Int) < (n : Int) := by omega
      obtain rfl : k = n := by omega
      have htab : Tab wr (some ⟨w.heap.size, 0, none⟩) w.heap.size k f g := by
        refine ⟨fun _ => rfl, fun i hi => ?_, fun i hi => ?_⟩
        · rw [hrow.cell (by omega), if_pos (by omega)]; simp [slotV]
        · rw [hrow.cell (by omega), if_pos (by omega)]; simp [slotV]; congr 1; omega
      go_wp2_with fail
      refine (letters_any z _ w.heap.size k k f g wr htab hn HSUM.out).mono ?_
      rintro e w1 ⟨rfl, hb1⟩
      go_wp2_with fail
      go_ret
      exact ⟨rfl, (since_below hS).trans (hb1.mono hS.size)⟩

end Go.Proofs.Qxb6602457a
