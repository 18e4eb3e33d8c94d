/-
  The walks of the two functions that copy a grid: cloneBools2, cloneU642.
-/
import Derived.Test.Qxb6602192aWalkA
import Derived.Deep.OwnRows
import Derived.Deep.LoopGhost
import Derived.Deep.Light
import Derived.Lib.SliceRun
namespace Go.Proofs.Qxb6602192a
open Go.RowKit

theorem since_below {B : Nat} {w w' : World} (h : w.Since B w') : Below B w w' := ⟨h.os, h.tape, h.output, h.size, h.block⟩
theorem Try.info4 : (Try.prog.info? 4).map (fun i => (i.zero, i.size, i.bytes)) = some (some (.bool false), 1, 1) := by kernel_rfl
theorem Try.info22 : (Try.prog.info? 22).map (fun i => (i.zero, i.size, i.bytes)) = some (some (.int .u64 0), 1, 8) := by kernel_rfl
theorem Try.info44 : (Try.prog.info? 44).map (fun i => (i.zero, i.size, i.bytes)) = some (some (.slice none 0 0), 1, 24) := by kernel_rfl
theorem Try.info27 : (Try.prog.info? 27).map (fun i => (i.zero, i.size, i.bytes)) = some (some (.slice none 0 0), 1, 24) := by kernel_rfl

theorem q36 : ∀ (w : World) (a : Option Addr) (n c n' c' : Nat), (binOp .eql 36 (.slice a n c) (.slice none n' c')).run Try.prog w = .ok (.bool a.isNone) w := fun w a n c n' c' => Lib.run_eql_slice_nil w _ _ a n c n' c' Try.underlying36
theorem q37 : ∀ (w : World) (a : Option Addr) (n c n' c' : Nat), (binOp .eql 37 (.slice a n c) (.slice none n' c')).run Try.prog w = .ok (.bool a.isNone) w := fun w a n c n' c' => Lib.run_eql_slice_nil w _ _ a n c n' c' Try.underlying37
theorem q44 : ∀ (w : World) (a : Option Addr) (n c n' c' : Nat), (binOp .eql 44 (.slice a n c) (.slice none n' c')).run Try.prog w = .ok (.bool a.isNone) w := fun w a n c n' c' => Lib.run_eql_slice_nil w _ _ a n c n' c' Try.underlying44
theorem q27 : ∀ (w : World) (a : Option Addr) (n c n' c' : Nat), (binOp .eql 27 (.slice a n c) (.slice none n' c')).run Try.prog w = .ok (.bool a.isNone) w := fun w a n c n' c' => Lib.run_eql_slice_nil w _ _ a n c n' c' Try.underlying27

/-- How many rows ahead of r are not nil. -/
def cnt (A : Nat → Option Addr) : Nat → Nat
  | 0 => 0
  | r + 1 => cnt A r + (if (A r).isSome = true then 1 else 0)
/-- Where the copy of row r begins. -/
def nA (N : Nat) (A : Nat → Option Addr) (r : Nat) : Option Addr := if (A r).isSome = true then some ⟨N + 1 + cnt A r, 0, none⟩ else none

theorem cnt_mono (A : Nat → Option Addr) {a b : Nat} (h : a ≤ b) : cnt A a ≤ cnt A b := by
  induction b with
  | zero => obtain rfl : a = 0 := by omega
            exact Nat.le_refl _
  | succ b ih =>
    by_cases e : a = b + 1
    · subst e; exact Nat.le_refl _
    · have := ih (by omega); simp only [cnt]; split <;> omega
theorem cnt_lt (A : Nat → Option Addr) {a b : Nat} (h : a < b) (hs : (A a).isSome = true) : cnt A a < cnt A b := by
  have := cnt_mono A (show a + 1 ≤ b by omega)
  simp only [cnt, hs, if_true] at this
  omega

/-- A grid that a call has made for itself: the row of rows in block N, each row that is not nil in a block of its own. -/
structure OGrid (w : World) (N : Nat) (T E : TypeId) (G : Nat) (A : Nat → Option Addr) (L : Nat → Nat) (V : Nat → Nat → Value) : Prop where
  top : 0 < G → w.rowIs N T G (fun r => .slice (nA N A r) (L r) (L r))
  row : ∀ r, r < G → (A r).isSome = true → w.rowIs (N + 1 + cnt A r) E (L r) (V r)
  nil : ∀ r, r < G → (A r).isSome = false → L r = 0

theorem OGrid.grid {w : World} {ga : Option Addr} {N : Nat} {T E : TypeId} {G : Nat} {A : Nat → Option Addr} {L : Nat → Nat} {V : Nat → Nat → Value} (h : OGrid w N T E G A L V) (ha : 0 < G → ga = some ⟨N, 0, none⟩) (hL : ∀ r, r < G → L r ≤ 9223372036854775807) :
    Grid w ga N 0 G (nA N A) L L (fun r => N + 1 + cnt A r) (fun _ => 0) V :=
  ⟨ha, fun r hr => by rw [Nat.zero_add]; exact (h.top (by omega)).cell hr, hL, fun r hr c hc => by
    have hs : (A r).isSome = true := by
      cases e : (A r).isSome with
      | true => rfl
      | false => have := h.nil r hr e; omega
    exact ⟨by simp [nA, hs], by rw [Nat.zero_add]; exact (h.row r hr hs).cell hc⟩⟩

theorem OGrid.kept {w w' : World} {N : Nat} {T E : TypeId} {G : Nat} {A : Nat → Option Addr} {L : Nat → Nat} {V : Nat → Nat → Value} (h : OGrid w N T E G A L V) (hk : ∀ b, N ≤ b → b < N + 1 + cnt A G → w'.heap[b]? = w.heap[b]?) : OGrid w' N T E G A L V :=
  ⟨fun h0 => (h.top h0).of_block (hk _ (Nat.le_refl _) (by omega)), fun r hr hs => (h.row r hr hs).of_block (hk _ (by omega) (by have := cnt_lt A hr hs; omega)), h.nil⟩

theorem OGrid.below {w w' : World} {B N : Nat} {T E : TypeId} {G : Nat} {A : Nat → Option Addr} {L : Nat → Nat} {V : Nat → Nat → Value} (h : OGrid w N T E G A L V) (hb : Below B w w') (hB : 0 < G → N + 1 + cnt A G ≤ B) : OGrid w' N T E G A L V := by
  rcases Nat.eq_zero_or_pos G with h0 | h0
  · subst h0; exact ⟨by omega, by omega, by omega⟩
  · exact h.kept fun b _ hlt => hb.block b (by have := hB h0; omega)

/-- The copy, k rows of it made. -/
structure Cl (w wr : World) (T E : TypeId) (G : Nat) (A : Nat → Option Addr) (L : Nat → Nat) (V : Nat → Nat → Value) (k : Nat) : Prop where
  since : w.Since w.heap.size wr
  size : wr.heap.size = w.heap.size + 1 + cnt A k
  top : wr.rowIs w.heap.size T G (fun r => if r < k then .slice (nA w.heap.size A r) (L r) (L r) else .slice none 0 0)
  row : ∀ r, r < k → (A r).isSome = true → wr.rowIs (w.heap.size + 1 + cnt A r) E (L r) (V r)

/-- .. and c cells of the next row. -/
structure Cl2 (w wr : World) (T E : TypeId) (G : Nat) (A : Nat → Option Addr) (L : Nat → Nat) (V : Nat → Nat → Value) (z : Value) (k c : Nat) : Prop where
  since : w.Since w.heap.size wr
  size : wr.heap.size = w.heap.size + 1 + cnt A k + 1
  top : wr.rowIs w.heap.size T G (fun r => if r < k then .slice (nA w.heap.size A r) (L r) (L r) else .slice none 0 0)
  row : ∀ r, r < k → (A r).isSome = true → wr.rowIs (w.heap.size + 1 + cnt A r) E (L r) (V r)
  cur : wr.rowIs (w.heap.size + 1 + cnt A k) E (L k) (fun i => if i < c then V k i else z)

section
variable {w wr : World} {T E : TypeId} {G : Nat} {A : Nat → Option Addr} {L : Nat → Nat} {V : Nat → Nat → Value} {z : Value} {k c : Nat}

theorem cl_start (w : World) (T E : TypeId) (G : Nat) (A : Nat → Option Addr) (L : Nat → Nat) (V : Nat → Nat → Value) : Cl w (w.alloc (.cells (madeCells #[.slice none 0 0] G) T)) T E G A L V 0 :=
  ⟨(World.Since.refl _ _).alloc (Nat.le_refl _) _, by simp [cnt], (World.rowIs_made w _ G T).congr (fun j _ => by simp), fun _ h => by omega⟩

theorem cl_skip (h : Cl w wr T E G A L V k) (hn : (A k).isSome = false) (hL : L k = 0) : Cl w wr T E G A L V (k + 1) := by
  refine ⟨h.since, by rw [h.size]; simp [cnt, hn], h.top.congr (fun j _ => ?_), fun r hr hs => h.row r (by
    rcases Nat.lt_succ_iff_lt_or_eq.1 hr with h | h
    · exact h
    · subst h; rw [hn] at hs; cases hs) hs⟩
  by_cases e : j = k
  · subst e; simp [nA, hn, hL]
  · by_cases hlt : j < k
    · rw [if_pos hlt, if_pos (by omega)]
    · rw [if_neg hlt, if_neg (by omega)]

theorem cl2_start (h : Cl w wr T E G A L V k) : Cl2 w (wr.alloc (.cells (madeCells #[z] (L k)) E)) T E G A L V z k 0 := by
  have hnew := World.rowIs_made wr z (L k) E
  rw [h.size] at hnew
  exact ⟨h.since.alloc (by rw [h.size]; omega) _, by simp [h.size], h.top.alloc _, fun r hr hs => (h.row r hr hs).alloc _, hnew.congr (fun i _ => by simp)⟩

theorem cl2_step (h : Cl2 w wr T E G A L V z k c) : Cl2 w (wr.setCell ⟨w.heap.size + 1 + cnt A k, c, none⟩ (V k c)) T E G A L V z k (c + 1) := by
  refine ⟨h.since.setCell (by show w.heap.size ≤ w.heap.size + 1 + cnt A k; omega) _, by simpa using h.size, h.top.setOther (by show w.heap.size ≠ w.heap.size + 1 + cnt A k; omega) _,
    fun r hr hs => (h.row r hr hs).setOther (by show w.heap.size + 1 + cnt A r ≠ w.heap.size + 1 + cnt A k; have := cnt_lt A hr hs; omega) _, (h.cur.set c _).congr (fun i _ => ?_)⟩
  by_cases e : i = c
  · subst e; simp
  · rw [if_neg e]
    by_cases hlt : i < c
    · rw [if_pos hlt, if_pos (by omega)]
    · rw [if_neg hlt, if_neg (by omega)]

theorem cl2_done (h : Cl2 w wr T E G A L V z k (L k)) (hs : (A k).isSome = true) : Cl w (wr.setCell ⟨w.heap.size, k, none⟩ (.slice (some ⟨w.heap.size + 1 + cnt A k, 0, none⟩) (L k) (L k))) T E G A L V (k + 1) := by
  refine ⟨h.since.setCell (Nat.le_refl _) _, by simp [h.size, cnt, hs]; omega, (h.top.set k _).congr (fun j _ => ?_), fun r hr hs' => ?_⟩
  · by_cases e : j = k
    · subst e; simp [nA, hs]
    · rw [if_neg e]
      by_cases hlt : j < k
      · rw [if_pos hlt, if_pos (by omega)]
      · rw [if_neg hlt, if_neg (by omega)]
  · have hb : w.heap.size + 1 + cnt A r ≠ (⟨w.heap.size, k, none⟩ : Addr).block := by show w.heap.size + 1 + cnt A r ≠ w.heap.size; omega
    by_cases e : r = k
    · subst e; exact (h.cur.congr (fun i hi => by rw [if_pos hi])).setOther hb _
    · exact (h.row r (by omega) hs').setOther hb _
end

/-- What a copy leaves. -/
def CloneP (T E : TypeId) (G : Nat) (A : Nat → Option Addr) (L : Nat → Nat) (V : Nat → Nat → Value) (w : World) (e : Ending) (w' : World) : Prop :=
  ∃ (ga : Option Addr) (c : Nat), e = .returned (.slice ga G c) ∧ (0 < G → ga = some ⟨w.heap.size, 0, none⟩) ∧ OGrid w' w.heap.size T E G A L V ∧ Below w.heap.size w w' ∧ (0 < G → w'.heap.size = w.heap.size + 1 + cnt A G)

set_option maxHeartbeats 4000000 in
theorem cloneBools2_any (ga : Option Addr) (gb go G gc : Nat) (A : Nat → Option Addr) (L C RB RO : Nat → Nat) (V : Nat → Nat → Bool) (w : World) (h : Grid w ga gb go G A L C RB RO (fun r c => .bool (V r c))) (hn : ∀ r, r < G → (A r).isSome = false → L r = 0) (hG : G ≤ 4096) (hL : ∀ r, r < G → L r ≤ 1048576) :
    Calls Try.prog 25 #[.slice ga G gc] w fun e w' => CloneP 44 4 G A L (fun r c => .bool (V r c)) w e w' := by
  have q1 := q36
  have q2 := q44
  cases ha : ga with
  | none =>
    have hn0 : G = 0 := by
      rcases Nat.eq_zero_or_pos G with h0 | h0
      · exact h0
      · have := h.addr h0; rw [ha] at this; cases this
    subst hn0
    go_enter Try.func25, Try.ntmps25
    go_wp2_with fail
    go_ret
    exact ⟨none, 0, rfl, by omega, ⟨by omega, by omega, by omega⟩, Below.refl _ _, by omega⟩
  | some x =>
    have HA : Hid (ga = some x) := ha
    clear ha
    have hmk := run_make_row' (P := Try.prog) 36 44 (.slice none 0 0) 24 Try.underlying36 Try.info44 rfl .i64 .i64 G (by omega) (by omega)
    have HN : Hid _ := hn
    clear hn
    go_enter Try.func25, Try.ntmps25
    go_wp2_with fail
    go_loopg [4] G (fun g i wr => ∃ k : Nat, k ≤ G ∧ g = G - k ∧ i = .int .i64 k ∧ Cl w wr 44 4 G A L (fun r c => .bool (V r c)) k)
    case atStart => exact ⟨0, Nat.zero_le _, rfl, rfl, cl_start _ _ _ _ _ _ _⟩
    case round =>
      obtain ⟨k, hk, rfl, rfl, hO⟩ := hrel
      clear hmk
      by_cases hlt : k < G
      · have hxx : x = ⟨gb, go, none⟩ := by have := HA.out; rw [h.addr (by omega)] at this; exact (Option.some.inj this).symm
        subst hxx
        have hkz : (k : Int) < (G : Int) := by omega
        have hgb : gb < w.heap.size := World.block_lt_of_cell? _ _ (h.row k hlt)
        have hLk := hL k hlt
        cases hs : (A k).isSome with
        | false =>
          have hAn : A k = none := by simpa using hs
          have g0 : wr.cell? ⟨gb, go + k, none⟩ = some (.slice none (L k) (C k)) := by rw [hO.since.cell (a := ⟨gb, go + k, none⟩) hgb, h.row k hlt, hAn]
          have HS := cl_skip hO hs (HN.out k hlt hs)
          clear hs hAn
          go_wp2_with fail
          go_roundg (G - (k + 1))
          case measure => go_light; omega
          case rel => go_light; exact ⟨k + 1, by omega, rfl, by go_num, HS⟩
        | true =>
          obtain ⟨y, hy⟩ := Option.isSome_iff_exists.1 hs
          have HS : Hid _ := hs
          clear hs
          have g0 : wr.cell? ⟨gb, go + k, none⟩ = some (.slice (some y) (L k) (C k)) := by rw [hO.since.cell (a := ⟨gb, go + k, none⟩) hgb, h.row k hlt, hy]
          have g0' : ∀ o, (wr.alloc o).cell? ⟨gb, go + k, none⟩ = some (.slice (some y) (L k) (C k)) := fun o => by
            rw [World.cell?_alloc_old _ _ _ (by show gb ≠ wr.heap.size; have := hO.size; omega)]
            exact g0
          have hmk2 := run_make_row' (P := Try.prog) 44 4 (.bool false) 1 Try.underlying44 Try.info4 rfl .i64 .i64 (L k) (by omega) (by omega)
          have HY : Hid (A k = some y) := hy
          clear hy
          have hI0 := cl2_start (z := .bool false) hO
          have hsize := hO.size
          clear hO
          go_wp2_with fail
          clear hmk2 hsize g0 g0'
          go_loopg [6] (L k) (fun g i wi => ∃ c : Nat, c ≤ L k ∧ g = L k - c ∧ i = .int .i64 c ∧ Cl2 w wi 44 4 G A L (fun r c => .bool (V r c)) (.bool false) k c)
          case atStart => exact ⟨0, Nat.zero_le _, rfl, rfl, hI0⟩
          case round =>
            obtain ⟨c, hc, rfl, rfl, hI⟩ := hrel
            clear hI0
            have g1 : wr.cell? ⟨gb, go + k, none⟩ = some (.slice (some y) (L k) (C k)) := by rw [hI.since.cell (a := ⟨gb, go + k, none⟩) hgb, h.row k hlt, HY.out]
            by_cases hcL : c < L k
            · obtain ⟨e1, e2⟩ := h.elt k hlt c hcL
              have hyy : y = ⟨RB k, RO k, none⟩ := by have := HY.out; rw [e1] at this; exact (Option.some.inj this).symm
              subst hyy
              have hcz : (c : Int) < (L k : Int) := by omega
              have g2 : wr.cell? ⟨RB k, RO k + c, none⟩ = some (.bool (V k c)) := by rw [hI.since.cell (a := ⟨RB k, RO k + c, none⟩) (World.block_lt_of_cell? _ _ e2)]; exact e2
              have g3 : wr.cell? ⟨w.heap.size + 1 + cnt A k, c, none⟩ = some (.bool false) := by simpa using hI.cur.cell hcL
              have g4 : wr.frozen? ⟨w.heap.size + 1 + cnt A k, c, none⟩ = false := hI.cur.frozen c
              have HS2 := cl2_step hI
              clear e1 e2
              go_wp2_with fail
              go_roundg (L k - (c + 1))
              case measure => go_light; omega
              case rel => go_light; exact ⟨c + 1, by omega, rfl, by go_num, HS2⟩
            · have hcz : ¬ (c : Int) < (L k : Int) := by omega
              obtain rfl : c = L k := by omega
              have g3 : wr.cell? ⟨w.heap.size, k, none⟩ = some (.slice none 0 0) := by simpa using hI.top.cell hlt
              have g4 : wr.frozen? ⟨w.heap.size, k, none⟩ = false := hI.top.frozen k
              have HD := cl2_done hI HS.out
              go_wp2_with fail
              go_roundg (G - (k + 1))
              case measure => go_light; omega
              case rel => go_light; exact ⟨k + 1, by omega, rfl, by go_num, HD⟩
      · have hkz : ¬ (k : Int) < (G : Int) := by omega
        go_wp2_with fail
        go_ret
        obtain rfl : k = G := by omega
        exact ⟨_, k, rfl, fun _ => rfl, ⟨fun _ => hO.top.congr (fun i hi => by rw [if_pos hi]), hO.row, HN.out⟩, since_below hO.since, fun _ => hO.size⟩

set_option maxHeartbeats 4000000 in
theorem cloneU642_any (ga : Option Addr) (gb go G gc : Nat) (A : Nat → Option Addr) (L C RB RO : Nat → Nat) (V : Nat → Nat → Int) (w : World) (h : Grid w ga gb go G A L C RB RO (fun r c => .int .u64 (V r c))) (hn : ∀ r, r < G → (A r).isSome = false → L r = 0) (hG : G ≤ 4096) (hL : ∀ r, r < G → L r ≤ 1048576) :
    Calls Try.prog 26 #[.slice ga G gc] w fun e w' => CloneP 27 22 G A L (fun r c => .int .u64 (V r c)) w e w' := by
  have q1 := q37
  have q2 := q27
  cases ha : ga with
  | none =>
    have hn0 : G = 0 := by
      rcases Nat.eq_zero_or_pos G with h0 | h0
      · exact h0
      · have := h.addr h0; rw [ha] at this; cases this
    subst hn0
    go_enter Try.func26, Try.ntmps26
    go_wp2_with fail
    go_ret
    exact ⟨none, 0, rfl, by omega, ⟨by omega, by omega, by omega⟩, Below.refl _ _, by omega⟩
  | some x =>
    have HA : Hid (ga = some x) := ha
    clear ha
    have hmk := run_make_row' (P := Try.prog) 37 27 (.slice none 0 0) 24 Try.underlying37 Try.info27 rfl .i64 .i64 G (by omega) (by omega)
    have HN : Hid _ := hn
    clear hn
    go_enter Try.func26, Try.ntmps26
    go_wp2_with fail
    go_loopg [4] G (fun g i wr => ∃ k : Nat, k ≤ G ∧ g = G - k ∧ i = .int .i64 k ∧ Cl w wr 27 22 G A L (fun r c => .int .u64 (V r c)) k)
    case atStart => exact ⟨0, Nat.zero_le _, rfl, rfl, cl_start _ _ _ _ _ _ _⟩
    case round =>
      obtain ⟨k, hk, rfl, rfl, hO⟩ := hrel
      clear hmk
      by_cases hlt : k < G
      · have hxx : x = ⟨gb, go, none⟩ := by have := HA.out; rw [h.addr (by omega)] at this; exact (Option.some.inj this).symm
        subst hxx
        have hkz : (k : Int) < (G : Int) := by omega
        have hgb : gb < w.heap.size := World.block_lt_of_cell? _ _ (h.row k hlt)
        have hLk := hL k hlt
        cases hs : (A k).isSome with
        | false =>
          have hAn : A k = none := by simpa using hs
          have g0 : wr.cell? ⟨gb, go + k, none⟩ = some (.slice none (L k) (C k)) := by rw [hO.since.cell (a := ⟨gb, go + k, none⟩) hgb, h.row k hlt, hAn]
          have HS := cl_skip hO hs (HN.out k hlt hs)
          clear hs hAn
          go_wp2_with fail
          go_roundg (G - (k + 1))
          case measure => go_light; omega
          case rel => go_light; exact ⟨k + 1, by omega, rfl, by go_num, HS⟩
        | true =>
          obtain ⟨y, hy⟩ := Option.isSome_iff_exists.1 hs
          have HS : Hid _ := hs
          clear hs
          have g0 : wr.cell? ⟨gb, go + k, none⟩ = some (.slice (some y) (L k) (C k)) := by rw [hO.since.cell (a := ⟨gb, go + k, none⟩) hgb, h.row k hlt, hy]
          have g0' : ∀ o, (wr.alloc o).cell? ⟨gb, go + k, none⟩ = some (.slice (some y) (L k) (C k)) := fun o => by
            rw [World.cell?_alloc_old _ _ _ (by show gb ≠ wr.heap.size; have := hO.size; omega)]
            exact g0
          have hmk2 := run_make_row' (P := Try.prog) 27 22 (.int .u64 0) 8 Try.underlying27 Try.info22 rfl .i64 .i64 (L k) (by omega) (by omega)
          have HY : Hid (A k = some y) := hy
          clear hy
          have hI0 := cl2_start (z := .int .u64 0) hO
          have hsize := hO.size
          clear hO
          go_wp2_with fail
          clear hmk2 hsize g0 g0'
          go_loopg [6] (L k) (fun g i wi => ∃ c : Nat, c ≤ L k ∧ g = L k - c ∧ i = .int .i64 c ∧ Cl2 w wi 27 22 G A L (fun r c => .int .u64 (V r c)) (.int .u64 0) k c)
          case atStart => exact ⟨0, Nat.zero_le _, rfl, rfl, hI0⟩
          case round =>
            obtain ⟨c, hc, rfl, rfl, hI⟩ := hrel
            clear hI0
            have g1 : wr.cell? ⟨gb, go + k, none⟩ = some (.slice (some y) (L k) (C k)) := by rw [hI.since.cell (a := ⟨gb, go + k, none⟩) hgb, h.row k hlt, HY.out]
            by_cases hcL : c < L k
            · obtain ⟨e1, e2⟩ := h.elt k hlt c hcL
              have hyy : y = ⟨RB k, RO k, none⟩ := by have := HY.out; rw [e1] at this; exact (Option.some.inj this).symm
              subst hyy
              have hcz : (c : Int) < (L k : Int) := by omega
              have g2 : wr.cell? ⟨RB k, RO k + c, none⟩ = some (.int .u64 (V k c)) := by rw [hI.since.cell (a := ⟨RB k, RO k + c, none⟩) (World.block_lt_of_cell? _ _ e2)]; exact e2
              have g3 : wr.cell? ⟨w.heap.size + 1 + cnt A k, c, none⟩ = some (.int .u64 0) := by simpa using hI.cur.cell hcL
              have g4 : wr.frozen? ⟨w.heap.size + 1 + cnt A k, c, none⟩ = false := hI.cur.frozen c
              have HS2 := cl2_step hI
              clear e1 e2
              go_wp2_with fail
              go_roundg (L k - (c + 1))
              case measure => go_light; omega
              case rel => go_light; exact ⟨c + 1, by omega, rfl, by go_num, HS2⟩
            · have hcz : ¬ (c : Int) < (L k : Int) := by omega
              obtain rfl : c = L k := by omega
              have g3 : wr.cell? ⟨w.heap.size, k, none⟩ = some (.slice none 0 0) := by simpa using hI.top.cell hlt
              have g4 : wr.frozen? ⟨w.heap.size, k, none⟩ = false := hI.top.frozen k
              have HD := cl2_done hI HS.out
              go_wp2_with fail
              go_roundg (G - (k + 1))
              case measure => go_light; omega
              case rel => go_light; exact ⟨k + 1, by omega, rfl, by go_num, HD⟩
      · have hkz : ¬ (k : Int) < (G : Int) := by omega
        go_wp2_with fail
        go_ret
        obtain rfl : k = G := by omega
        exact ⟨_, k, rfl, fun _ => rfl, ⟨fun _ => hO.top.congr (fun i hi => by rw [if_pos hi]), hO.row, HN.out⟩, since_below hO.since, fun _ => hO.size⟩

end Go.Proofs.Qxb6602192a
